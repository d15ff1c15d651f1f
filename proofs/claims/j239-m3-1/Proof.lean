import JvmDerived
import JvmDerived.Pilot.@@N@@Statement
import JvmDerived.Pilot.@@N@@Code
set_option linter.unusedVariables false
set_option linter.unusedSimpArgs false
/- laws to paste: Road.backV (cut by pick.py; bodies as the Statement names them) -/
namespace Jvm.Pilot.@@N@@
namespace StrChars
open Jvm Sem ClassFile Op Lib Jvm.Stand Jvm.Free.XT Jvm.Free.ALB Jvm.Free.JM Jvm.Free
open Jvm.Lib.Cold (StaticIs)
/-- a char array whose places are chars -/
def Ch (a : Addr) (A : Cell) (U : State) : Prop := Arr .char a A U ∧ Typed .char A
theorem Ch.mv {a : Addr} {A : Cell} {U U' : State} (h : Ch a A U) (hal : U.vm.Alike U'.vm) (hh : U'.heap = U.heap) : Ch a A U' := ⟨h.1.mv hal hh, h.2⟩
theorem Ch.keep {a : Addr} {A : Cell} {U U' : State} (h : Ch a A U) (hal : U.vm.Alike U'.vm) (hk : U'.heap[a]? = some A) : Ch a A U' := ⟨h.1.keep hal hk, h.2⟩
/-- what place i of a char[]'s cell holds -/
def cv (A : Cell) (i : Nat) : Int32 := match A.slots[i]? with | some (.int x) => x | _ => 0
theorem Ch.get {a : Addr} {A : Cell} {U : State} (h : Ch a A U) {i : Nat} (hi : i < A.slots.size) : A.slots[i]? = some (.int (cv A i)) := by
  have e := Array.getElem?_eq_getElem hi
  have f := h.2 i _ e
  unfold cv; rw [e]
  generalize A.slots[i] = v at f
  cases v <;> simp [fits] at f ⊢
/-- the byte that i2b leaves of a char -/
def lo8 (x : Int32) : Int32 := x.toInt8.toInt32
theorem fits_lo8 (y : Int32) : fits .byte (.int (lo8 y)) = true := by
  have h1 := y.toInt8.le_toInt
  have h2 := y.toInt8.toInt_lt
  simp only [lo8, fits, Bool.and_eq_true, decide_eq_true_eq, Int32.le_iff_toInt_le, Int8.toInt_toInt32, show (-128 : Int32).toInt = -128 from by decide, show (127 : Int32).toInt = 127 from by decide]
  omega
/-- A' is A but that each place j of lo .. hi - 1 holds f j -/
def Laid (A A' : Cell) (lo hi : Nat) (f : Nat → Value) : Prop := A'.cls = A.cls ∧ A'.vm = A.vm ∧ A'.slots.size = A.slots.size ∧ ∀ i, A'.slots[i]? = if lo ≤ i ∧ i < hi then some (f i) else A.slots[i]?
theorem Laid.zero (A : Cell) (lo : Nat) (f : Nat → Value) : Laid A A lo (lo + 0) f := ⟨rfl, rfl, rfl, fun i => by rw [if_neg (by omega)]⟩
theorem Laid.step {A Ak : Cell} {lo k : Nat} {f : Nat → Value} {v : Value} (h : Laid A Ak lo k f) (hlo : lo ≤ k) (hk : k < Ak.slots.size) (hv : v = f k) : Laid A (Ak.setSlot k v) lo (k + 1) f := by
  refine ⟨h.1, h.2.1, by simpa [Cell.setSlot] using h.2.2.1, fun i => ?_⟩
  by_cases e : k = i
  · subst e; rw [Cell.slots_setSlot_self v hk, if_pos (by omega), hv]
  · rw [Cell.slots_setSlot_ne v e, h.2.2.2 i]
    by_cases q : lo ≤ i ∧ i < k
    · rw [if_pos q, if_pos (by omega)]
    · rw [if_neg q, if_neg (by omega)]
def U16 : String := "java/lang/StringUTF16"
namespace Cmp5
def yN : MethodName := ⟨"java/lang/StringUTF16", "compress", "([CI[BII)I"⟩
abbrev yB : ByteArray := jdk_52_method_21_code
theorem d0 : decode yB 0 = .ok (.iconst 0, 1) := by decide +kernel
theorem d1 : decode yB 1 = .ok (.istore 5, 2) := by decide +kernel
theorem d3 : decode yB 3 = .ok (.iload 5, 2) := by decide +kernel
theorem d5 : decode yB 5 = .ok (.iload 4, 2) := by decide +kernel
theorem d7 : decode yB 7 = .ok (.if_icmp (.ge) 37, 3) := by decide +kernel
theorem d10 : decode yB 10 = .ok (.aload_n 0, 1) := by decide +kernel
theorem d11 : decode yB 11 = .ok (.iload_n 1, 1) := by decide +kernel
theorem d12 : decode yB 12 = .ok (.caload, 1) := by decide +kernel
theorem d13 : decode yB 13 = .ok (.istore 6, 2) := by decide +kernel
theorem d15 : decode yB 15 = .ok (.iload 6, 2) := by decide +kernel
theorem d17 : decode yB 17 = .ok (.sipush 255, 3) := by decide +kernel
theorem d20 : decode yB 20 = .ok (.if_icmp (.le) 6, 3) := by decide +kernel
theorem d26 : decode yB 26 = .ok (.aload_n 2, 1) := by decide +kernel
theorem d27 : decode yB 27 = .ok (.iload_n 3, 1) := by decide +kernel
theorem d28 : decode yB 28 = .ok (.iload 6, 2) := by decide +kernel
theorem d30 : decode yB 30 = .ok (.i2b, 1) := by decide +kernel
theorem d31 : decode yB 31 = .ok (.bastore, 1) := by decide +kernel
theorem d32 : decode yB 32 = .ok (.iinc 1 1, 3) := by decide +kernel
theorem d35 : decode yB 35 = .ok (.iinc 3 1, 3) := by decide +kernel
theorem d38 : decode yB 38 = .ok (.iinc 5 1, 3) := by decide +kernel
theorem d41 : decode yB 41 = .ok (.goto (-38), 3) := by decide +kernel
theorem d44 : decode yB 44 = .ok (.iload 4, 2) := by decide +kernel
theorem d46 : decode yB 46 = .ok (.ireturn, 1) := by decide +kernel
def site : List Cond := []
def tab : Cond := tabOf yN yB 7 (some .int) site
def P (b : Addr) (A : Cell) (d : Addr) (B : Cell) (o q len : Nat) (args : Array Value) (s : State) : Prop := args = #[.ref b, .int (Int32.ofNat o), .ref d, .int (Int32.ofNat q), .int (Int32.ofNat len)] ∧ Ch b A s ∧ Arr .byte d B s ∧ b ≠ d ∧ o + len ≤ A.slots.size ∧ q + len ≤ B.slots.size ∧ ∀ i, i < len → ¬ 255 < cv A (o + i)
def E (b : Addr) (A : Cell) (d : Addr) (B : Cell) (o q len : Nat) (r : Option Value) (s u : State) : Prop := r = some (.int (Int32.ofNat len)) ∧ ∃ B', Put d B' s u ∧ Laid B B' q (q + len) (fun j => Value.int (lo8 (cv A (o + (j - q)))))
/-- no char of the range above 255: len; the places written hold each char's low byte -/
theorem law (l : Launch) (b : Addr) (A : Cell) (d : Addr) (B : Cell) (o q len : Nat) : Law l yN 5 5 0 0 yB 7 (some .int) site (P b A d B o q len) (E b A d B o q len) (copyLocs d q len) 0 0 := by
  refine Law.of_walk (plainFor_of_name (by decide +kernel)) (by decide +kernel) (by decide +kernel) (by decide) (fun _ _ h => by rw [h.1]; rfl) (fun _ U U' hal hh h => ⟨h.1, h.2.1.mv hal hh, h.2.2.1.mv hal hh, h.2.2.2⟩) (fun r U U' V V' h1 hal h2 h => ⟨h.1, h.2.elim fun B' q => ⟨B', q.1.mv h1 h2, q.2⟩⟩) ?_
  intro p e s m args below meth c s₁ X0 hexec hbytes hml hret hlk hnm hown hh0 W hP
  obtain ⟨rfl, hA, hB, hne, l1, l2, hp⟩ := hP
  have c1 : Steps p.tables e below (s₁.setTop (entryFrame m #[.ref b, .int (Int32.ofNat o), .ref d, .int (Int32.ofNat q), .int (Int32.ofNat len)] 7)) (s₁.setTop (mkF m 0 #[.val (.ref b), .val (.int (Int32.ofNat o)), .val (.ref d), .val (.int (Int32.ofNat q)), .val (.int (Int32.ofNat len)), .unset, .unset] [])) := entry rfl
  have hA0 := hA.1.mv X0.warmed.alike hh0
  have hB0 := hB.mv X0.warmed.alike hh0
  have a31 := hA.1.2.2.2
  have c2 : Steps p.tables e below (s₁.setTop (entryFrame m #[.ref b, .int (Int32.ofNat o), .ref d, .int (Int32.ofNat q), .int (Int32.ofNat len)] 7)) (s₁.setTop (mkF m 3 #[.val (.ref b), .val (.int (Int32.ofNat o)), .val (.ref d), .val (.int (Int32.ofNat q)), .val (.int (Int32.ofNat len)), .val (.int 0), .unset] [])) := c1.trans (by
    refine iconstV X0.here hexec rfl 0 (hb hbytes d0) (by decide) ?_
    refine XS.istore X0.here hexec rfl (hb hbytes d1) rfl rfl ?_
    exact Steps.refl _)
  have loop : ∀ (r i : Nat), i + r = len → ∀ (z : Slot), (z = .unset ∨ ∃ w, z = .val w ∧ w.category = 1) → ∀ (Tl : State) (Bk : Cell), Stand p l e { frames := 0, locals := 0, cells := 0, slots := 0 } s m #[.ref b, .int (Int32.ofNat o), .ref d, .int (Int32.ofNat q), .int (Int32.ofNat len)] below meth c Tl ([] ++ copyLocs d q i) 0 0 → Put d Bk s₁ Tl → Laid B Bk q (q + i) (fun j => Value.int (lo8 (cv A (o + (j - q))))) →
      Steps p.tables e below (s₁.setTop (entryFrame m #[.ref b, .int (Int32.ofNat o), .ref d, .int (Int32.ofNat q), .int (Int32.ofNat len)] 7)) (Tl.setTop (mkF m 3 #[.val (.ref b), .val (.int (Int32.ofNat (o + i))), .val (.ref d), .val (.int (Int32.ofNat (q + i))), .val (.int (Int32.ofNat len)), .val (.int (Int32.ofNat i)), z] [])) → ∃ (T' : State) (B' : Cell) (z' : Slot), Stand p l e { frames := 0, locals := 0, cells := 0, slots := 0 } s m #[.ref b, .int (Int32.ofNat o), .ref d, .int (Int32.ofNat q), .int (Int32.ofNat len)] below meth c T' ([] ++ copyLocs d q len) 0 0 ∧ Put d B' s₁ T' ∧ Laid B B' q (q + len) (fun j => Value.int (lo8 (cv A (o + (j - q))))) ∧
      Steps p.tables e below (s₁.setTop (entryFrame m #[.ref b, .int (Int32.ofNat o), .ref d, .int (Int32.ofNat q), .int (Int32.ofNat len)] 7)) (T'.setTop (mkF m 3 #[.val (.ref b), .val (.int (Int32.ofNat (o + len))), .val (.ref d), .val (.int (Int32.ofNat (q + len))), .val (.int (Int32.ofNat len)), .val (.int (Int32.ofNat len)), z'] [])) := by
    intro r
    induction r with
    | zero =>
      intro i hi z hz Tl Bk Xl pl fl cl
      have hil : i = len := by omega
      rw [hil] at Xl fl cl
      exact ⟨Tl, Bk, z, Xl, pl, fl, cl⟩
    | succ r ih =>
      intro i hi z hz Tl Bk Xl pl fl cl
      have all := X0.warmed.alike.symm.trans Xl.warmed.alike
      have hAl := hA0.keep all (pl.other hne hA0.1)
      have hBk := hB0.like all pl.1 fl.1 fl.2.1 fl.2.2.1
      have hlt : q + i < Bk.slots.size := by rw [fl.2.2.1]; omega
      have c3 : Steps p.tables e below (s₁.setTop (entryFrame m #[.ref b, .int (Int32.ofNat o), .ref d, .int (Int32.ofNat q), .int (Int32.ofNat len)] 7)) (Tl.setTop (mkF m 12 #[.val (.ref b), .val (.int (Int32.ofNat (o + i))), .val (.ref d), .val (.int (Int32.ofNat (q + i))), .val (.int (Int32.ofNat len)), .val (.int (Int32.ofNat i)), z] [.int (Int32.ofNat (o + i)), .ref b])) := cl.trans (by
        refine XS.iload Xl.here hexec rfl (hb hbytes d3) rfl ?_
        refine XS.iload Xl.here hexec rfl (hb hbytes d5) rfl ?_
        refine XS.icmpNo Xl.here hexec rfl (hb hbytes d7) rfl (ii_ge_f (lt32 (by omega) (by omega))) ?_
        refine XS.aloadN Xl.here hexec rfl (hb hbytes d10) rfl rfl ?_
        refine XS.iloadN Xl.here hexec rfl (hb hbytes d11) rfl ?_
        exact Steps.refl _)
      have c4 : Steps p.tables e below (s₁.setTop (entryFrame m #[.ref b, .int (Int32.ofNat o), .ref d, .int (Int32.ofNat q), .int (Int32.ofNat len)] 7)) (Tl.setTop (mkF m 13 #[.val (.ref b), .val (.int (Int32.ofNat (o + i))), .val (.ref d), .val (.int (Int32.ofNat (q + i))), .val (.int (Int32.ofNat len)), .val (.int (Int32.ofNat i)), z] [.int (cv A (o + i))])) := c3.trans (by
        refine Xl.aget hexec hAl rfl (hA.get (i := o + i) (by omega)) rfl rfl (hb hbytes d12) ?_
        exact Steps.refl _)
      have c5 : Steps p.tables e below (s₁.setTop (entryFrame m #[.ref b, .int (Int32.ofNat o), .ref d, .int (Int32.ofNat q), .int (Int32.ofNat len)] 7)) (Tl.setTop (mkF m 15 #[.val (.ref b), .val (.int (Int32.ofNat (o + i))), .val (.ref d), .val (.int (Int32.ofNat (q + i))), .val (.int (Int32.ofNat len)), .val (.int (Int32.ofNat i)), .val (.int (cv A (o + i)))] [])) := c4.trans (by
        refine XS.istoreS Xl.here hexec rfl (hb hbytes d13) rfl rfl hz ?_
        exact Steps.refl _)
      have c6 : Steps p.tables e below (s₁.setTop (entryFrame m #[.ref b, .int (Int32.ofNat o), .ref d, .int (Int32.ofNat q), .int (Int32.ofNat len)] 7)) (Tl.setTop (mkF m 31 #[.val (.ref b), .val (.int (Int32.ofNat (o + i))), .val (.ref d), .val (.int (Int32.ofNat (q + i))), .val (.int (Int32.ofNat len)), .val (.int (Int32.ofNat i)), .val (.int (cv A (o + i)))] [.int (lo8 (cv A (o + i))), .int (Int32.ofNat (q + i)), .ref d])) := c5.trans (by
        refine XS.iload Xl.here hexec rfl (hb hbytes d15) rfl ?_
        refine sipushV Xl.here hexec rfl 255 (hb hbytes d17) (by decide) ?_
        refine XS.icmpYes Xl.here hexec rfl (pc0 := 20) rfl (hb hbytes d20) rfl (ii_le_t (hp i (by omega))) (by decide) rfl ?_
        refine XS.aloadN Xl.here hexec rfl (hb hbytes d26) rfl rfl ?_
        refine XS.iloadN Xl.here hexec rfl (hb hbytes d27) rfl ?_
        refine XS.iload Xl.here hexec rfl (hb hbytes d28) rfl ?_
        refine i2b Xl.here hexec rfl (hb hbytes d30) rfl ?_
        exact Steps.refl _)
      obtain ⟨T7, X7, p7, st7⟩ := Xl.aput hexec hBk rfl hlt rfl (fits_lo8 (cv A (o + i))) (g := (mkF m 31 #[.val (.ref b), .val (.int (Int32.ofNat (o + i))), .val (.ref d), .val (.int (Int32.ofNat (q + i))), .val (.int (Int32.ofNat len)), .val (.int (Int32.ofNat i)), .val (.int (cv A (o + i)))] [.int (lo8 (cv A (o + i))), .int (Int32.ofNat (q + i)), .ref d])) rfl (rest := []) rfl (hb hbytes d31)
      have c8 : Steps p.tables e below (s₁.setTop (entryFrame m #[.ref b, .int (Int32.ofNat o), .ref d, .int (Int32.ofNat q), .int (Int32.ofNat len)] 7)) (T7.setTop (mkF m 32 #[.val (.ref b), .val (.int (Int32.ofNat (o + i))), .val (.ref d), .val (.int (Int32.ofNat (q + i))), .val (.int (Int32.ofNat len)), .val (.int (Int32.ofNat i)), .val (.int (cv A (o + i)))] [])) := c6.trans (st7 _ (Steps.refl _))
      have c9 : Steps p.tables e below (s₁.setTop (entryFrame m #[.ref b, .int (Int32.ofNat o), .ref d, .int (Int32.ofNat q), .int (Int32.ofNat len)] 7)) (T7.setTop (mkF m 3 #[.val (.ref b), .val (.int (Int32.ofNat (o + i) + 1)), .val (.ref d), .val (.int (Int32.ofNat (q + i) + 1)), .val (.int (Int32.ofNat len)), .val (.int (Int32.ofNat i + 1)), .val (.int (cv A (o + i)))] [])) := c8.trans (by
        refine iincV X7.here hexec rfl 1 (hb hbytes d32) (by decide) rfl rfl ?_
        refine iincV X7.here hexec rfl 1 (hb hbytes d35) (by decide) rfl rfl ?_
        refine iincV X7.here hexec rfl 1 (hb hbytes d38) (by decide) rfl rfl ?_
        refine XS.goto X7.here hexec rfl (pc0 := 41) rfl (hb hbytes d41) (by decide) rfl ?_
        exact Steps.refl _)
      have c10 : Steps p.tables e below (s₁.setTop (entryFrame m #[.ref b, .int (Int32.ofNat o), .ref d, .int (Int32.ofNat q), .int (Int32.ofNat len)] 7)) (T7.setTop (mkF m 3 #[.val (.ref b), .val (.int (Int32.ofNat (o + (i + 1)))), .val (.ref d), .val (.int (Int32.ofNat (q + (i + 1)))), .val (.int (Int32.ofNat len)), .val (.int (Int32.ofNat (i + 1))), .val (.int (cv A (o + i)))] [])) := by
        have := c9
        rw [succ32, succ32, succ32] at this
        exact this
      exact ih (i + 1) (by omega) _ (Or.inr ⟨_, rfl, rfl⟩) T7 _ (by rw [copyLocs_step, ← List.append_assoc]; exact X7) (pl.trans p7) (fl.step (by omega) hlt (by simp)) c10
  obtain ⟨T9, B9, z9, X9, p9, f9, g9⟩ := loop len 0 (by omega) .unset (Or.inl rfl) s₁ B (by simpa [copyLocs] using X0) ⟨hB0.1, fun _ _ => rfl, rfl⟩ (Laid.zero _ _ _) c2
  have c11 : Steps p.tables e below (s₁.setTop (entryFrame m #[.ref b, .int (Int32.ofNat o), .ref d, .int (Int32.ofNat q), .int (Int32.ofNat len)] 7)) (T9.setTop (mkF m 46 #[.val (.ref b), .val (.int (Int32.ofNat (o + len))), .val (.ref d), .val (.int (Int32.ofNat (q + len))), .val (.int (Int32.ofNat len)), .val (.int (Int32.ofNat len)), z9] [.int (Int32.ofNat len)])) := g9.trans (by
    refine XS.iload X9.here hexec rfl (hb hbytes d3) rfl ?_
    refine XS.iload X9.here hexec rfl (hb hbytes d5) rfl ?_
    refine XS.icmpYes X9.here hexec rfl (pc0 := 7) rfl (hb hbytes d7) rfl (ii_ge_t (nlt32 (by omega) (Nat.le_refl _))) (by decide) rfl ?_
    refine XS.iload X9.here hexec rfl (hb hbytes d44) rfl ?_
    exact Steps.refl _)
  exact ⟨T9, some (.int (Int32.ofNat len)), _, _, _, X9, by simp, rfl, rfl, (fun h => by cases h), ⟨rfl, B9, p9.from hh0, f9⟩, fun fs hl => c11.trans (X9.ireturnOut hexec hret rfl (Or.inl rfl) (hb hbytes d46) hl)⟩
end Cmp5
namespace Cmp3
def yN : MethodName := ⟨"java/lang/StringUTF16", "compress", "([CII)[B"⟩
abbrev yB : ByteArray := jdk_52_method_16_code
theorem d0 : decode yB 0 = .ok (.iload_n 2, 1) := by decide +kernel
theorem d1 : decode yB 1 = .ok (.newarray .byte, 2) := by decide +kernel
theorem d3 : decode yB 3 = .ok (.astore_n 3, 1) := by decide +kernel
theorem d4 : decode yB 4 = .ok (.aload_n 0, 1) := by decide +kernel
theorem d5 : decode yB 5 = .ok (.iload_n 1, 1) := by decide +kernel
theorem d6 : decode yB 6 = .ok (.aload_n 3, 1) := by decide +kernel
theorem d7 : decode yB 7 = .ok (.iconst 0, 1) := by decide +kernel
theorem d8 : decode yB 8 = .ok (.iload_n 2, 1) := by decide +kernel
theorem d9 : decode yB 9 = .ok (.invokestatic 115, 3) := by decide +kernel
theorem d12 : decode yB 12 = .ok (.istore 4, 2) := by decide +kernel
theorem d14 : decode yB 14 = .ok (.iload 4, 2) := by decide +kernel
theorem d16 : decode yB 16 = .ok (.iload_n 2, 1) := by decide +kernel
theorem d17 : decode yB 17 = .ok (.if_icmp (.eq) 40, 3) := by decide +kernel
theorem d57 : decode yB 57 = .ok (.aload_n 3, 1) := by decide +kernel
theorem d58 : decode yB 58 = .ok (.areturn, 1) := by decide +kernel
def site : List Cond := [.arrayClass .byte, Cmp5.tab] ++ staticW U16 115 Cmp5.yN
def tab : Cond := tabOf yN yB 6 (some (.array .byte)) site
def P (b : Addr) (A : Cell) (o len : Nat) (args : Array Value) (s : State) : Prop := args = #[.ref b, .int (Int32.ofNat o), .int (Int32.ofNat len)] ∧ Ch b A s ∧ o + len ≤ A.slots.size ∧ len ≤ 536870912 ∧ ∀ i, i < len → ¬ 255 < cv A (o + i)
def E (b : Addr) (A : Cell) (o len : Nat) (r : Option Value) (s u : State) : Prop := NewArr .byte "[B" len (fun j => .int (lo8 (cv A (o + j)))) r s u ∧ u.heap.size = s.heap.size + 1
/-- no char of the range above 255: a new byte[] of their low bytes -/
theorem law (l : Launch) (b : Addr) (A : Cell) (o len : Nat) : Law l yN 3 3 1 18 yB 6 (some (.array .byte)) site (P b A o len) (E b A o len) [] 1 len := by
  refine Law.of_walk (plainFor_of_name (by decide +kernel)) (by decide +kernel) (by decide +kernel) (by decide) (fun _ _ h => by rw [h.1]; rfl) (fun _ U U' hal hh h => ⟨h.1, h.2.1.mv hal hh, h.2.2⟩) (fun r U U' V V' h1 hal h2 h => ⟨NewArr.mv r U U' V V' h1 hal h2 h.1, by rw [h1, h2]; exact h.2⟩) ?_
  intro p e s m args below meth c s₁ X0 hexec hbytes hml hret hlk hnm hown hh0 W hP
  obtain ⟨rfl, hA, l1, l2, hp⟩ := hP
  have a31 := hA.1.2.2.2
  have c1 : Steps p.tables e below (s₁.setTop (entryFrame m #[.ref b, .int (Int32.ofNat o), .int (Int32.ofNat len)] 6)) (s₁.setTop (mkF m 0 #[.val (.ref b), .val (.int (Int32.ofNat o)), .val (.int (Int32.ofNat len)), .unset, .unset, .unset] [])) := entry rfl
  have c2 : Steps p.tables e below (s₁.setTop (entryFrame m #[.ref b, .int (Int32.ofNat o), .int (Int32.ofNat len)] 6)) (s₁.setTop (mkF m 1 #[.val (.ref b), .val (.int (Int32.ofNat o)), .val (.int (Int32.ofNat len)), .unset, .unset, .unset] [.int (Int32.ofNat len)])) := c1.trans (by
    refine XS.iloadN X0.here hexec rfl (hb hbytes d0) rfl ?_
    exact Steps.refl _)
  obtain ⟨T3, B3, X3, ba3, bs3, bv3, bh3, bf3, st3⟩ := X0.anew hexec (atype := .byte) (wk W (.arrayClass .byte)) rfl (by show len * 1 ≤ _; omega) (by omega) (g := (mkF m 1 #[.val (.ref b), .val (.int (Int32.ofNat o)), .val (.int (Int32.ofNat len)), .unset, .unset, .unset] [.int (Int32.ofNat len)])) rfl (hb hbytes d1) (rest := []) rfl (Nat.le_refl _) (by show 0 + len ≤ len; omega)
  rw [hh0] at ba3 st3
  have kp3 : XT.Kept s T3 := (XT.Kept.of_eq hh0).push bh3
  have hA3 := hA.keep X3.warmed.alike (kp3 _ _ hA.1.1)
  have hne : b ≠ s.heap.size := hA.1.ne
  have c4 : Steps p.tables e below (s₁.setTop (entryFrame m #[.ref b, .int (Int32.ofNat o), .int (Int32.ofNat len)] 6)) (T3.setTop (mkF m 3 #[.val (.ref b), .val (.int (Int32.ofNat o)), .val (.int (Int32.ofNat len)), .unset, .unset, .unset] [.ref s.heap.size])) := c2.trans (st3 _ (Steps.refl _))
  have c5 : Steps p.tables e below (s₁.setTop (entryFrame m #[.ref b, .int (Int32.ofNat o), .int (Int32.ofNat len)] 6)) (T3.setTop (mkF m 9 #[.val (.ref b), .val (.int (Int32.ofNat o)), .val (.int (Int32.ofNat len)), .val (.ref s.heap.size), .unset, .unset] [.int (Int32.ofNat len), .int 0, .ref s.heap.size, .int (Int32.ofNat o), .ref b])) := c4.trans (by
    refine XS.astoreN X3.here hexec rfl (hb hbytes d3) rfl rfl rfl ?_
    refine XS.aloadN X3.here hexec rfl (hb hbytes d4) rfl rfl ?_
    refine XS.iloadN X3.here hexec rfl (hb hbytes d5) rfl ?_
    refine XS.aloadN X3.here hexec rfl (hb hbytes d6) rfl rfl ?_
    refine iconstV X3.here hexec rfl 0 (hb hbytes d7) (by decide) ?_
    refine XS.iloadN X3.here hexec rfl (hb hbytes d8) rfl ?_
    exact Steps.refl _)
  obtain ⟨v6, T6, X6, E6, g6⟩ := X3.callS hexec (Cmp5.law l b A s.heap.size B3 o 0 len) hown (wks W (staticW U16 115 Cmp5.yN)) (wk W Cmp5.tab) (W := 0) (Nat.le_of_ble_eq_true rfl) (Nat.le_of_ble_eq_true rfl) (Nat.le_refl _) (by show 0 + len + 0 ≤ len; omega) (g := (mkF m 9 #[.val (.ref b), .val (.int (Int32.ofNat o)), .val (.int (Int32.ofNat len)), .val (.ref s.heap.size), .unset, .unset] [.int (Int32.ofNat len), .int (Int32.ofNat 0), .ref s.heap.size, .int (Int32.ofNat o), .ref b])) rfl (by rw [hml]; rfl) c5 (argsL := [.ref b, .int (Int32.ofNat o), .ref s.heap.size, .int (Int32.ofNat 0), .int (Int32.ofNat len)]) (rest := []) rfl rfl (by show 2 * 0 + 0 ≤ _; decide) (hb hbytes d9) (⟨rfl, hA3, ba3, hne, l1, by rw [bs3]; simp, hp⟩)
  obtain ⟨rfl, B6, p6, f6⟩ := E6
  have c7 : Steps p.tables e below (s₁.setTop (entryFrame m #[.ref b, .int (Int32.ofNat o), .int (Int32.ofNat len)] 6)) (T6.setTop (mkF m 12 #[.val (.ref b), .val (.int (Int32.ofNat o)), .val (.int (Int32.ofNat len)), .val (.ref s.heap.size), .unset, .unset] [.int (Int32.ofNat len)])) := g6
  have c8 : Steps p.tables e below (s₁.setTop (entryFrame m #[.ref b, .int (Int32.ofNat o), .int (Int32.ofNat len)] 6)) (T6.setTop (mkF m 58 #[.val (.ref b), .val (.int (Int32.ofNat o)), .val (.int (Int32.ofNat len)), .val (.ref s.heap.size), .val (.int (Int32.ofNat len)), .unset] [.ref s.heap.size])) := c7.trans (by
    refine XS.istore X6.here hexec rfl (hb hbytes d12) rfl rfl ?_
    refine XS.iload X6.here hexec rfl (hb hbytes d14) rfl ?_
    refine XS.iloadN X6.here hexec rfl (hb hbytes d16) rfl ?_
    refine XS.icmpYes X6.here hexec rfl (pc0 := 17) rfl (hb hbytes d17) rfl (ii_eq_t rfl) (by decide) rfl ?_
    refine XS.aloadN X6.here hexec rfl (hb hbytes d57) rfl rfl ?_
    exact Steps.refl _)
  have X8 := X6.wide (L' := []) (cells' := 1) (slots' := len) (fun x hx hlt => by
    simp only [List.nil_append, copyLocs, List.mem_map, List.mem_range] at hx
    obtain ⟨i, -, rfl⟩ := hx
    exact absurd hlt (Nat.lt_irrefl _)) (Nat.le_refl _) (by omega)
  exact ⟨T6, some (.ref s.heap.size), _, _, _, X8, rfl, rfl, rfl, (fun h => by cases h), ⟨⟨rfl, B6, ba3.like (X3.warmed.alike.symm.trans X6.warmed.alike) p6.1 f6.1 f6.2.1 f6.2.2.1, f6.2.1.trans bv3, by rw [X6.warmed.alike.findClass, f6.1]; exact bf3, by rw [f6.2.2.1, bs3]; simp, fun j hj => by rw [f6.2.2.2 j, if_pos (by omega)]; rfl, kp3.put p6 (Nat.le_refl _)⟩, by rw [p6.2.2, bh3, hh0]; simp⟩, fun fs hl => c8.trans (X8.areturnOut hexec rfl hret rfl (hb hbytes d58) hl)⟩
end Cmp3
namespace CodL
def yN : MethodName := ⟨"java/lang/StringUTF16", "coderFromArrayLen", "([BI)B"⟩
abbrev yB : ByteArray := jdk_52_method_15_code
theorem d0 : decode yB 0 = .ok (.iload_n 1, 1) := by decide +kernel
theorem d1 : decode yB 1 = .ok (.aload_n 0, 1) := by decide +kernel
theorem d2 : decode yB 2 = .ok (.arraylength, 1) := by decide +kernel
theorem d3 : decode yB 3 = .ok (.isub, 1) := by decide +kernel
theorem d4 : decode yB 4 = .ok (.bipush 31, 2) := by decide +kernel
theorem d6 : decode yB 6 = .ok (.iushr, 1) := by decide +kernel
theorem d7 : decode yB 7 = .ok (.i2b, 1) := by decide +kernel
theorem d8 : decode yB 8 = .ok (.ireturn, 1) := by decide +kernel
def site : List Cond := []
def tab : Cond := tabOf yN yB 2 (some .byte) site
def P (d : Addr) (B : Cell) (args : Array Value) (s : State) : Prop := args = #[.ref d, .int (Int32.ofNat B.slots.size)] ∧ Arr .byte d B s
def E (r : Option Value) (s u : State) : Prop := XT.PureE (some (.int 0)) r s u
/-- an array as long as the number of chars: LATIN1 -/
theorem law (l : Launch) (d : Addr) (B : Cell) : Law l yN 2 2 0 0 yB 2 (some .byte) site (P d B) E [] 0 0 := by
  refine Law.of_walk (plainFor_of_name (by decide +kernel)) (by decide +kernel) (by decide +kernel) (by decide) (fun _ _ h => by rw [h.1]; rfl) (fun _ U U' hal hh h => ⟨h.1, h.2.mv hal hh⟩) (fun r U U' V V' h1 hal h2 h => XT.PureE.mv r U U' V V' h1 hal h2 h) ?_
  intro p e s m args below meth c s₁ X0 hexec hbytes hml hret hlk hnm hown hh0 W hP
  obtain ⟨rfl, hB⟩ := hP
  have hB0 := hB.mv X0.warmed.alike hh0
  have c1 : Steps p.tables e below (s₁.setTop (entryFrame m #[.ref d, .int (Int32.ofNat B.slots.size)] 2)) (s₁.setTop (mkF m 0 #[.val (.ref d), .val (.int (Int32.ofNat B.slots.size))] [])) := entry rfl
  have c2 : Steps p.tables e below (s₁.setTop (entryFrame m #[.ref d, .int (Int32.ofNat B.slots.size)] 2)) (s₁.setTop (mkF m 2 #[.val (.ref d), .val (.int (Int32.ofNat B.slots.size))] [.ref d, .int (Int32.ofNat B.slots.size)])) := c1.trans (by
    refine XS.iloadN X0.here hexec rfl (hb hbytes d0) rfl ?_
    refine XS.aloadN X0.here hexec rfl (hb hbytes d1) rfl rfl ?_
    exact Steps.refl _)
  have c3 : Steps p.tables e below (s₁.setTop (entryFrame m #[.ref d, .int (Int32.ofNat B.slots.size)] 2)) (s₁.setTop (mkF m 8 #[.val (.ref d), .val (.int (Int32.ofNat B.slots.size))] [.int (lo8 (ushr (Int32.ofNat B.slots.size - Int32.ofNat B.slots.size) 31))])) := c2.trans (by
    refine X0.alen hexec hB0 rfl rfl (hb hbytes d2) ?_
    refine XS.isub X0.here hexec rfl (hb hbytes d3) rfl ?_
    refine bipushV X0.here hexec rfl 31 (hb hbytes d4) (by decide) ?_
    refine iushr X0.here hexec rfl (hb hbytes d6) rfl ?_
    refine i2b X0.here hexec rfl (hb hbytes d7) rfl ?_
    exact Steps.refl _)
  have e0 : lo8 (ushr (Int32.ofNat B.slots.size - Int32.ofNat B.slots.size) 31) = 0 := by rw [Int32.sub_self]; decide
  rw [e0] at c3
  exact ⟨s₁, some (.int 0), _, _, _, X0, rfl, rfl, rfl, (fun h => by cases h), ⟨rfl, hh0⟩, fun fs hl => c3.trans (X0.ireturnOut hexec hret rfl (Or.inr (Or.inr (Or.inl rfl))) (hb hbytes d8) hl)⟩
end CodL
/-- the String at a is Latin-1 over a new byte[] (the heap's one new cell): the low bytes of the len chars of A from o on; every cell but a is kept -/
def Got (a : Addr) (D : Cell) (fV fC : Field) (A : Cell) (o len : Nat) (r : Option Value) (s u : State) : Prop := r = none ∧ ∃ D' V : Cell, Blank "java/lang/String" a D' u ∧ Same D D' [fV.slot, fC.slot] ∧ D'.slots[fV.slot]? = some (.ref s.heap.size) ∧ D'.slots[fC.slot]? = some (.int 0) ∧ Arr .byte s.heap.size V u ∧ V.vm = .none ∧ u.vm.findClass "[B" = some V.cls ∧ V.slots.size = len ∧ (∀ j, j < len → V.slots[j]? = some (.int (lo8 (cv A (o + j))))) ∧ (∀ (y : Addr) (c : Cell), y ≠ a → s.heap[y]? = some c → u.heap[y]? = some c) ∧ u.heap.size = s.heap.size + 1
theorem Got.mv {a : Addr} {D A : Cell} {fV fC : Field} {o len : Nat} : ∀ r (U U' V V' : State), U'.heap = U.heap → V.vm.Alike V'.vm → V'.heap = V.heap → Got a D fV fC A o len r U V → Got a D fV fC A o len r U' V' :=
  fun r U U' V V' h1 hal h2 ⟨e0, D', X, a1, a2, a3, a4, a5, a6, a7, a8, a9, a10, a11⟩ => ⟨e0, D', X, a1.mv hal h2, a2, by rw [h1]; exact a3, a4, by rw [h1]; exact a5.mv hal h2, a6, by rw [hal.findClass]; exact a7, a8, a9, by rw [h1, h2]; exact a10, by rw [h1, h2]; exact a11⟩
namespace New4
def yN : MethodName := ⟨"java/lang/String", "<init>", "([CIILjava/lang/Void;)V"⟩
abbrev yB : ByteArray := jdk_42_method_149_code
theorem d0 : decode yB 0 = .ok (.aload_n 0, 1) := by decide +kernel
theorem d1 : decode yB 1 = .ok (.invokespecial 1, 3) := by decide +kernel
theorem d4 : decode yB 4 = .ok (.iload_n 3, 1) := by decide +kernel
theorem d5 : decode yB 5 = .ok (.ifCond (.ne) 22, 3) := by decide +kernel
theorem d27 : decode yB 27 = .ok (.getstatic 38, 3) := by decide +kernel
theorem d30 : decode yB 30 = .ok (.ifCond (.eq) 28, 3) := by decide +kernel
theorem d33 : decode yB 33 = .ok (.aload_n 1, 1) := by decide +kernel
theorem d34 : decode yB 34 = .ok (.iload_n 2, 1) := by decide +kernel
theorem d35 : decode yB 35 = .ok (.iload_n 3, 1) := by decide +kernel
theorem d36 : decode yB 36 = .ok (.invokestatic 177, 3) := by decide +kernel
theorem d39 : decode yB 39 = .ok (.astore 5, 2) := by decide +kernel
theorem d41 : decode yB 41 = .ok (.aload_n 0, 1) := by decide +kernel
theorem d42 : decode yB 42 = .ok (.aload 5, 2) := by decide +kernel
theorem d44 : decode yB 44 = .ok (.iload_n 3, 1) := by decide +kernel
theorem d45 : decode yB 45 = .ok (.invokestatic 47, 3) := by decide +kernel
theorem d48 : decode yB 48 = .ok (.putfield 15, 3) := by decide +kernel
theorem d51 : decode yB 51 = .ok (.aload_n 0, 1) := by decide +kernel
theorem d52 : decode yB 52 = .ok (.aload 5, 2) := by decide +kernel
theorem d54 : decode yB 54 = .ok (.putfield 9, 3) := by decide +kernel
theorem d57 : decode yB 57 = .ok (.return_, 1) := by decide +kernel
def site : List Cond := [.fieldLink "java/lang/String" 38 "java/lang/String" "COMPACT_STRINGS" "Z", Cmp3.tab, CodL.tab, .laysFinal "java/lang/String" "java/lang/String" "value" "[B", .fieldLink "java/lang/String" 9 "java/lang/String" "value" "[B", .laysFinal "java/lang/String" "java/lang/String" "coder" "B", .fieldLink "java/lang/String" 15 "java/lang/String" "coder" "B"] ++ objW "java/lang/String" 1 ++ staticW "java/lang/String" 177 Cmp3.yN ++ staticW "java/lang/String" 47 CodL.yN
def tab : Cond := tabOf yN yB 6 none site
def P (a : Addr) (D : Cell) (fV fC : Field) (b : Addr) (A : Cell) (z : Int32) (o len : Nat) (args : Array Value) (s : State) : Prop := args = #[.ref a, .ref b, .int (Int32.ofNat o), .int (Int32.ofNat len), .null] ∧ Blank "java/lang/String" a D s ∧ Found "java/lang/String" "value" "[B" fV s ∧ Found "java/lang/String" "coder" "B" fC s ∧ Ch b A s ∧ StaticIs s "java/lang/String" "COMPACT_STRINGS" "Z" (.int z) ∧ ¬ z = 0 ∧ 0 < len ∧ o + len ≤ A.slots.size ∧ len ≤ 536870912 ∧ ∀ i, i < len → ¬ 255 < cv A (o + i)
def E (a : Addr) (D : Cell) (fV fC : Field) (A : Cell) (o len : Nat) (r : Option Value) (s u : State) : Prop := Got a D fV fC A o len r s u
/-- len > 0, no char of the range above 255: a Latin-1 String of their low bytes -/
theorem law (l : Launch) (a : Addr) (D : Cell) (fV fC : Field) (b : Addr) (A : Cell) (z : Int32) (o len : Nat) : Law l yN 5 4 2 35 yB 6 none site (P a D fV fC b A z o len) (E a D fV fC A o len) [⟨a, fC.slot⟩, ⟨a, fV.slot⟩] 1 len := by
  refine Law.of_walk (plainFor_of_name (by decide +kernel)) (by decide +kernel) (by decide +kernel) (by decide) (fun _ _ h => by rw [h.1]; rfl) (fun _ U U' hal hh h => ⟨h.1, h.2.1.mv hal hh, h.2.2.1.al hal, h.2.2.2.1.al hal, h.2.2.2.2.1.mv hal hh, h.2.2.2.2.2.1.there hal hh, h.2.2.2.2.2.2⟩) (fun r U U' V V' h1 hal h2 h => Got.mv r U U' V V' h1 hal h2 h) ?_
  intro p e s m args below meth c s₁ X0 hexec hbytes hml hret hlk hnm hown hh0 W hP
  obtain ⟨rfl, hB, f1, f2, hA, s1, hz, l0, l1, l2, hp⟩ := hP
  have a31 := hA.1.2.2.2
  have c1 : Steps p.tables e below (s₁.setTop (entryFrame m #[.ref a, .ref b, .int (Int32.ofNat o), .int (Int32.ofNat len), .null] 6)) (s₁.setTop (mkF m 0 #[.val (.ref a), .val (.ref b), .val (.int (Int32.ofNat o)), .val (.int (Int32.ofNat len)), .val .null, .unset] [])) := entry rfl
  have c2 : Steps p.tables e below (s₁.setTop (entryFrame m #[.ref a, .ref b, .int (Int32.ofNat o), .int (Int32.ofNat len), .null] 6)) (s₁.setTop (mkF m 1 #[.val (.ref a), .val (.ref b), .val (.int (Int32.ofNat o)), .val (.int (Int32.ofNat len)), .val .null, .unset] [.ref a])) := c1.trans (by
    refine XS.aloadN X0.here hexec rfl (hb hbytes d0) rfl rfl ?_
    exact Steps.refl _)
  obtain ⟨T3, X3, q3, st3⟩ := X0.oinit hexec hown (wks W (objW "java/lang/String" 1)) (g := (mkF m 1 #[.val (.ref a), .val (.ref b), .val (.int (Int32.ofNat o)), .val (.int (Int32.ofNat len)), .val .null, .unset] [.ref a])) rfl (by rw [hml]; rfl) (rest := []) rfl (hb hbytes d1) (W := 0) (by show 2 * 0 + 0 ≤ _; decide) (Nat.le_of_ble_eq_true rfl) (Nat.le_of_ble_eq_true rfl)
  have hh3 := q3.trans hh0
  have c4 : Steps p.tables e below (s₁.setTop (entryFrame m #[.ref a, .ref b, .int (Int32.ofNat o), .int (Int32.ofNat len), .null] 6)) (T3.setTop (mkF m 27 #[.val (.ref a), .val (.ref b), .val (.int (Int32.ofNat o)), .val (.int (Int32.ofNat len)), .val .null, .unset] [])) := (c2.trans (st3 _ (Steps.refl _))).trans (by
    refine XS.iloadN X3.here hexec rfl (hb hbytes d4) rfl ?_
    refine XS.ifYes X3.here hexec rfl (pc0 := 5) rfl (hb hbytes d5) rfl (i0_ne_t (nz32 (by omega) l0)) (by decide) rfl ?_
    exact Steps.refl _)
  obtain ⟨T5, X5, q5, st5⟩ := X3.sget hexec hown (wk W (.fieldLink "java/lang/String" 38 "java/lang/String" "COMPACT_STRINGS" "Z")) s1 (fun _ _ h => by rw [hh3]; exact h) (g := (mkF m 27 #[.val (.ref a), .val (.ref b), .val (.int (Int32.ofNat o)), .val (.int (Int32.ofNat len)), .val .null, .unset] [])) rfl (hb hbytes d27)
  have hh5 := q5.trans hh3
  have c6 : Steps p.tables e below (s₁.setTop (entryFrame m #[.ref a, .ref b, .int (Int32.ofNat o), .int (Int32.ofNat len), .null] 6)) (T5.setTop (mkF m 30 #[.val (.ref a), .val (.ref b), .val (.int (Int32.ofNat o)), .val (.int (Int32.ofNat len)), .val .null, .unset] [.int z])) := c4.trans (st5 _ (Steps.refl _))
  have c7 : Steps p.tables e below (s₁.setTop (entryFrame m #[.ref a, .ref b, .int (Int32.ofNat o), .int (Int32.ofNat len), .null] 6)) (T5.setTop (mkF m 36 #[.val (.ref a), .val (.ref b), .val (.int (Int32.ofNat o)), .val (.int (Int32.ofNat len)), .val .null, .unset] [.int (Int32.ofNat len), .int (Int32.ofNat o), .ref b])) := c6.trans (by
    refine XS.ifNo X5.here hexec rfl (hb hbytes d30) rfl (i0_eq_f hz) ?_
    refine XS.aloadN X5.here hexec rfl (hb hbytes d33) rfl rfl ?_
    refine XS.iloadN X5.here hexec rfl (hb hbytes d34) rfl ?_
    refine XS.iloadN X5.here hexec rfl (hb hbytes d35) rfl ?_
    exact Steps.refl _)
  obtain ⟨v8, T8, X8, E8, g8⟩ := X5.callS hexec (Cmp3.law l b A o len) hown (wks W (staticW "java/lang/String" 177 Cmp3.yN)) (wk W Cmp3.tab) (W := 0) (Nat.le_of_ble_eq_true rfl) (Nat.le_of_ble_eq_true rfl) (Nat.le_refl _) (by show 0 + len ≤ len; omega) (g := (mkF m 36 #[.val (.ref a), .val (.ref b), .val (.int (Int32.ofNat o)), .val (.int (Int32.ofNat len)), .val .null, .unset] [.int (Int32.ofNat len), .int (Int32.ofNat o), .ref b])) rfl (by rw [hml]; rfl) c7 (argsL := [.ref b, .int (Int32.ofNat o), .int (Int32.ofNat len)]) (rest := []) rfl rfl (by show 2 * 0 + 0 ≤ _; decide) (hb hbytes d36) (⟨rfl, hA.mv X5.warmed.alike hh5, l1, l2, hp⟩)
  obtain ⟨e8, z8⟩ := E8
  obtain ⟨rfl, N, n1, n2, n3, n4, n5, n6⟩ := NewArr.mv _ T5 s _ _ hh5.symm (Vm.Alike.refl _) rfl e8
  rw [hh5] at z8
  have hB1 := hB.keep X8.warmed.alike (n6 _ _ hB.1)
  have hne : s.heap.size ≠ a := (Nat.ne_of_lt (Array.getElem?_eq_some_iff.mp hB.1).1).symm
  have c9 : Steps p.tables e below (s₁.setTop (entryFrame m #[.ref a, .ref b, .int (Int32.ofNat o), .int (Int32.ofNat len), .null] 6)) (T8.setTop (mkF m 39 #[.val (.ref a), .val (.ref b), .val (.int (Int32.ofNat o)), .val (.int (Int32.ofNat len)), .val .null, .unset] [.ref s.heap.size])) := g8
  have c10 : Steps p.tables e below (s₁.setTop (entryFrame m #[.ref a, .ref b, .int (Int32.ofNat o), .int (Int32.ofNat len), .null] 6)) (T8.setTop (mkF m 45 #[.val (.ref a), .val (.ref b), .val (.int (Int32.ofNat o)), .val (.int (Int32.ofNat len)), .val .null, .val (.ref s.heap.size)] [.int (Int32.ofNat N.slots.size), .ref s.heap.size, .ref a])) := by
    have hc : Steps p.tables e below (s₁.setTop (entryFrame m #[.ref a, .ref b, .int (Int32.ofNat o), .int (Int32.ofNat len), .null] 6)) (T8.setTop (mkF m 45 #[.val (.ref a), .val (.ref b), .val (.int (Int32.ofNat o)), .val (.int (Int32.ofNat len)), .val .null, .val (.ref s.heap.size)] [.int (Int32.ofNat len), .ref s.heap.size, .ref a])) := c9.trans (by
      refine XS.astore X8.here hexec rfl (hb hbytes d39) rfl rfl rfl ?_
      refine XS.aloadN X8.here hexec rfl (hb hbytes d41) rfl rfl ?_
      refine XS.aload X8.here hexec rfl (hb hbytes d42) rfl rfl ?_
      refine XS.iloadN X8.here hexec rfl (hb hbytes d44) rfl ?_
      exact Steps.refl _)
    rw [n4]; exact hc
  obtain ⟨v11, T11, X11, E11, g11⟩ := X8.callS hexec (CodL.law l s.heap.size N) hown (wks W (staticW "java/lang/String" 47 CodL.yN)) (wk W CodL.tab) (W := 1) (Nat.le_of_ble_eq_true rfl) (Nat.le_of_ble_eq_true rfl) (Nat.le_refl _) (by show 0 + len + 0 ≤ len; omega) (g := (mkF m 45 #[.val (.ref a), .val (.ref b), .val (.int (Int32.ofNat o)), .val (.int (Int32.ofNat len)), .val .null, .val (.ref s.heap.size)] [.int (Int32.ofNat N.slots.size), .ref s.heap.size, .ref a])) rfl (by rw [hml]; rfl) c10 (argsL := [.ref s.heap.size, .int (Int32.ofNat N.slots.size)]) (rest := [.ref a]) rfl rfl (by show 2 * 0 + (1 + 0) ≤ _; decide) (hb hbytes d45) (⟨rfl, n1⟩)
  obtain ⟨rfl, q11⟩ := E11
  have hB11 := hB1.mv (X8.warmed.alike.symm.trans X11.warmed.alike) q11
  have c12 : Steps p.tables e below (s₁.setTop (entryFrame m #[.ref a, .ref b, .int (Int32.ofNat o), .int (Int32.ofNat len), .null] 6)) (T11.setTop (mkF m 48 #[.val (.ref a), .val (.ref b), .val (.int (Int32.ofNat o)), .val (.int (Int32.ofNat len)), .val .null, .val (.ref s.heap.size)] [.int 0, .ref a])) := g11
  obtain ⟨T13, X13, p13, bl13, sl13, st13⟩ := X11.finit hexec hown (wk W (.fieldLink "java/lang/String" 15 "java/lang/String" "coder" "B")) (Or.inr ⟨_, (wk W (.laysFinal "java/lang/String" "java/lang/String" "coder" "B"))⟩) (Or.inl ⟨rfl, hnm⟩) f2 (Or.inl rfl) hB11 (t := .byte) (by decide +kernel) rfl (g := (mkF m 48 #[.val (.ref a), .val (.ref b), .val (.int (Int32.ofNat o)), .val (.int (Int32.ofNat len)), .val .null, .val (.ref s.heap.size)] [.int 0, .ref a])) rfl (rest := []) rfl (hb hbytes d48)
  have c14 : Steps p.tables e below (s₁.setTop (entryFrame m #[.ref a, .ref b, .int (Int32.ofNat o), .int (Int32.ofNat len), .null] 6)) (T13.setTop (mkF m 54 #[.val (.ref a), .val (.ref b), .val (.int (Int32.ofNat o)), .val (.int (Int32.ofNat len)), .val .null, .val (.ref s.heap.size)] [.ref s.heap.size, .ref a])) := (c12.trans (st13 _ (Steps.refl _))).trans (by
    refine XS.aloadN X13.here hexec rfl (hb hbytes d51) rfl rfl ?_
    refine XS.aload X13.here hexec rfl (hb hbytes d52) rfl rfl ?_
    exact Steps.refl _)
  obtain ⟨T15, X15, p15, bl15, sl15, st15⟩ := X13.finit hexec hown (wk W (.fieldLink "java/lang/String" 9 "java/lang/String" "value" "[B")) (Or.inr ⟨_, (wk W (.laysFinal "java/lang/String" "java/lang/String" "value" "[B"))⟩) (Or.inl ⟨rfl, hnm⟩) f1 (Or.inl rfl) bl13 (t := (.array .byte)) (by decide +kernel) rfl (g := (mkF m 54 #[.val (.ref a), .val (.ref b), .val (.int (Int32.ofNat o)), .val (.int (Int32.ofNat len)), .val .null, .val (.ref s.heap.size)] [.ref s.heap.size, .ref a])) rfl (rest := []) rfl (hb hbytes d54)
  have c16 : Steps p.tables e below (s₁.setTop (entryFrame m #[.ref a, .ref b, .int (Int32.ofNat o), .int (Int32.ofNat len), .null] 6)) (T15.setTop (mkF m 57 #[.val (.ref a), .val (.ref b), .val (.int (Int32.ofNat o)), .val (.int (Int32.ofNat len)), .val .null, .val (.ref s.heap.size)] [])) := c14.trans (st15 _ (Steps.refl _))
  have ap := apart (Or.inr ⟨_, (wk W (.laysFinal "java/lang/String" "java/lang/String" "value" "[B"))⟩) (Or.inr ⟨_, (wk W (.laysFinal "java/lang/String" "java/lang/String" "coder" "B"))⟩) f1 f2 (t₁ := .array .byte) (t₂ := .byte) (by decide +kernel) (by decide +kernel) (by decide)
  have al := X8.warmed.alike.symm.trans X15.warmed.alike
  have n7 : T11.heap[s.heap.size]? = some N := by rw [q11]; exact n1.1
  exact ⟨T15, none, _, _, _, X15, by simp, rfl, by omega, (fun _ => rfl), ⟨rfl, _, N, bl15, ((Same.refl D _).set _ (by simp)).set _ (by simp), sl15, (Cell.slots_setSlot_ne _ ap).trans sl13, n1.keep al (p15.other hne (p13.other hne n7)), n2, by rw [al.findClass]; exact n3, n4, n5, fun y c h1 h2 => p15.other h1 (p13.other h1 (by rw [q11]; exact n6 y c h2)), by rw [p15.2.2, p13.2.2, q11]; exact z8⟩, fun fs hl => c16.trans (X15.returnOut hexec hret (hb hbytes d57) hl)⟩
end New4
namespace New1
def yN : MethodName := ⟨"java/lang/String", "<init>", "([C)V"⟩
abbrev yB : ByteArray := jdk_42_method_3_code
theorem d0 : decode yB 0 = .ok (.aload_n 0, 1) := by decide +kernel
theorem d1 : decode yB 1 = .ok (.aload_n 1, 1) := by decide +kernel
theorem d2 : decode yB 2 = .ok (.iconst 0, 1) := by decide +kernel
theorem d3 : decode yB 3 = .ok (.aload_n 1, 1) := by decide +kernel
theorem d4 : decode yB 4 = .ok (.arraylength, 1) := by decide +kernel
theorem d5 : decode yB 5 = .ok (.aconst_null, 1) := by decide +kernel
theorem d6 : decode yB 6 = .ok (.invokespecial 27, 3) := by decide +kernel
theorem d9 : decode yB 9 = .ok (.return_, 1) := by decide +kernel
def site : List Cond := [New4.tab] ++ initW "java/lang/String" 27 New4.yN
def tab : Cond := tabOf yN yB 2 none site
def P (a : Addr) (D : Cell) (fV fC : Field) (b : Addr) (A : Cell) (z : Int32) (args : Array Value) (s : State) : Prop := args = #[.ref a, .ref b] ∧ Blank "java/lang/String" a D s ∧ Found "java/lang/String" "value" "[B" fV s ∧ Found "java/lang/String" "coder" "B" fC s ∧ Ch b A s ∧ StaticIs s "java/lang/String" "COMPACT_STRINGS" "Z" (.int z) ∧ ¬ z = 0 ∧ 0 < A.slots.size ∧ A.slots.size ≤ 536870912 ∧ ∀ i, i < A.slots.size → ¬ 255 < cv A i
def E (a : Addr) (D : Cell) (fV fC : Field) (A : Cell) (r : Option Value) (s u : State) : Prop := Got a D fV fC A 0 A.slots.size r s u
/-- new String(chars), not empty, no char above 255: a Latin-1 String of their low bytes -/
theorem law (l : Launch) (a : Addr) (D : Cell) (fV fC : Field) (b : Addr) (A : Cell) (z : Int32) : Law l yN 2 1 3 52 yB 2 none site (P a D fV fC b A z) (E a D fV fC A) [⟨a, fC.slot⟩, ⟨a, fV.slot⟩] 1 A.slots.size := by
  refine Law.of_walk (plainFor_of_name (by decide +kernel)) (by decide +kernel) (by decide +kernel) (by decide) (fun _ _ h => by rw [h.1]; rfl) (fun _ U U' hal hh h => ⟨h.1, h.2.1.mv hal hh, h.2.2.1.al hal, h.2.2.2.1.al hal, h.2.2.2.2.1.mv hal hh, h.2.2.2.2.2.1.there hal hh, h.2.2.2.2.2.2⟩) (fun r U U' V V' h1 hal h2 h => Got.mv r U U' V V' h1 hal h2 h) ?_
  intro p e s m args below meth c s₁ X0 hexec hbytes hml hret hlk hnm hown hh0 W hP
  obtain ⟨rfl, hB, f1, f2, hA, s1, hz, l0, l2, hp⟩ := hP
  have c1 : Steps p.tables e below (s₁.setTop (entryFrame m #[.ref a, .ref b] 2)) (s₁.setTop (mkF m 0 #[.val (.ref a), .val (.ref b)] [])) := entry rfl
  have c2 : Steps p.tables e below (s₁.setTop (entryFrame m #[.ref a, .ref b] 2)) (s₁.setTop (mkF m 6 #[.val (.ref a), .val (.ref b)] [.null, .int (Int32.ofNat A.slots.size), .int 0, .ref b, .ref a])) := c1.trans (by
    refine XS.aloadN X0.here hexec rfl (hb hbytes d0) rfl rfl ?_
    refine XS.aloadN X0.here hexec rfl (hb hbytes d1) rfl rfl ?_
    refine iconstV X0.here hexec rfl 0 (hb hbytes d2) (by decide) ?_
    refine XS.aloadN X0.here hexec rfl (hb hbytes d3) rfl rfl ?_
    refine X0.alen hexec (hA.1.mv X0.warmed.alike hh0) rfl rfl (hb hbytes d4) ?_
    refine XS.aconstNull X0.here hexec rfl (hb hbytes d5) ?_
    exact Steps.refl _)
  obtain ⟨v3, T3, X3, E3, g3⟩ := X0.callN hexec (New4.law l a D fV fC b A z 0 A.slots.size) rfl hown (wks W (initW "java/lang/String" 27 New4.yN)) (W New4.tab (by simp only [site, List.mem_cons, List.mem_append, true_or, or_true])) (W := 0) (Nat.le_of_ble_eq_true rfl) (Nat.le_of_ble_eq_true rfl) (Nat.le_refl _) (by show 0 + A.slots.size ≤ A.slots.size; omega) (g := (mkF m 6 #[.val (.ref a), .val (.ref b)] [.null, .int (Int32.ofNat A.slots.size), .int (Int32.ofNat 0), .ref b, .ref a])) rfl (by rw [hml]; rfl) c2 (argsL := [.ref b, .int (Int32.ofNat 0), .int (Int32.ofNat A.slots.size), .null]) (rest := []) rfl rfl (by show 2 * 0 + 0 ≤ _; decide) (hb hbytes d6) (⟨rfl, hB.mv X0.warmed.alike hh0, f1.al X0.warmed.alike, f2.al X0.warmed.alike, hA.mv X0.warmed.alike hh0, s1.there X0.warmed.alike hh0, hz, l0, by omega, l2, fun i hi => by rw [Nat.zero_add]; exact hp i hi⟩)
  have e0 := Got.mv _ s₁ s _ _ hh0.symm (Vm.Alike.refl _) rfl E3
  obtain rfl := e0.1
  have c4 : Steps p.tables e below (s₁.setTop (entryFrame m #[.ref a, .ref b] 2)) (T3.setTop (mkF m 9 #[.val (.ref a), .val (.ref b)] [])) := g3
  exact ⟨T3, none, _, _, _, X3, by simp, rfl, by omega, (fun _ => rfl), e0, fun fs hl => c4.trans (X3.returnOut hexec hret (hb hbytes d9) hl)⟩
theorem pays {l : Launch} {R : Room} {p : Program} {e : Env} {below : List Frame} {s : State} {sargs : Array Value} {len W : Nat} (a : Addr) (D : Cell) (fV fC : Field) (b : Addr) (A : Cell) (z : Int32) (htab : tab.before sargs s = true) (hfr : 4 ≤ R.frames) (hlo : W + 65 ≤ R.locals) :
    Back l R p e below s sargs yN len W (fun A₁ a₁ => A₁.cells + 1 ≤ R.cells ∧ A₁.slots + A.slots.size ≤ R.slots ∧ P a D fV fC b A z a₁ A₁.U) (fun A₁ _ v₁ B₁ => E a D fV fC A v₁ A₁.U B₁.U ∧ B₁.locs = A₁.locs ++ [⟨a, fC.slot⟩, ⟨a, fV.slot⟩] ∧ B₁.cells = A₁.cells + 1 ∧ B₁.slots = A₁.slots + A.slots.size) :=
  (law l a D fV fC b A z).pays htab hfr (by omega)
end New1
end StrChars
namespace StrChars.Road
open Jvm Sem ClassFile Op Lib Jvm.Stand Jvm.Free Jvm.Free.XT
open Jvm.Lib.Cold (StaticIs)
abbrev ST : String := "java/lang/String"
/-- every table word that New1's law asks, flat -/
abbrev words : List Jvm.Cond := [.code New1.yN New1.yB 2 none, .initialized ST, .methodLink ST 27 New4.yN, .instanceMethod New4.yN,
  .code New4.yN New4.yB 6 none, .fieldLink ST 38 ST "COMPACT_STRINGS" "Z", .laysFinal ST ST "value" "[B", .fieldLink ST 9 ST "value" "[B", .laysFinal ST ST "coder" "B", .fieldLink ST 15 ST "coder" "B",
  .methodLink ST 1 Lib.objectInit, .instanceMethod Lib.objectInit, .code Lib.objectInit ⟨#[0xb1]⟩ 1 none, .methodLink ST 177 Cmp3.yN, .static Cmp3.yN, .methodLink ST 47 CodL.yN, .static CodL.yN,
  .code Cmp3.yN Cmp3.yB 6 (some (.array .byte)), .initialized U16, .arrayClass .byte, .methodLink U16 115 Cmp5.yN, .static Cmp5.yN, .code Cmp5.yN Cmp5.yB 7 (some .int), .code CodL.yN CodL.yB 2 (some .byte)]
theorem tab_of {a : Array Value} {s : State} (h : ∀ w ∈ words, w.before a s = true) : New1.tab.before a s = true := by
  have h5 : Cmp5.tab.before a s = true := unparts (wk h (.code Cmp5.yN Cmp5.yB 7 (some .int))) (wks h (.initialized Cmp5.yN.cls :: Cmp5.site))
  have hc : CodL.tab.before a s = true := unparts (wk h (.code CodL.yN CodL.yB 2 (some .byte))) (wks h (.initialized CodL.yN.cls :: CodL.site))
  have q5 : ∀ w ∈ Cmp5.tab :: words, w.before a s = true := fun w hw => (List.mem_cons.mp hw).elim (fun e => e ▸ h5) (h w)
  have h3 : Cmp3.tab.before a s = true := unparts (wk q5 (.code Cmp3.yN Cmp3.yB 6 (some (.array .byte)))) (wks q5 (.initialized Cmp3.yN.cls :: Cmp3.site))
  have q3 : ∀ w ∈ Cmp3.tab :: CodL.tab :: words, w.before a s = true := fun w hw => (List.mem_cons.mp hw).elim (fun e => e ▸ h3) fun hw => (List.mem_cons.mp hw).elim (fun e => e ▸ hc) (h w)
  have h4 : New4.tab.before a s = true := unparts (wk q3 (.code New4.yN New4.yB 6 none)) (wks q3 (.initialized New4.yN.cls :: New4.site))
  have q4 : ∀ w ∈ New4.tab :: words, w.before a s = true := fun w hw => (List.mem_cons.mp hw).elim (fun e => e ▸ h4) (h w)
  exact unparts (wk q4 (.code New1.yN New1.yB 2 none)) (wks q4 (.initialized New1.yN.cls :: New1.site))
/-- the words ride from the start Z to the walk's own state -/
theorem moved {Z s : State} {a0 args : Array Value} (hZ : Z.Warmed39 s.vm) (hw : ∀ d ∈ words, d.before a0 Z = true) : ∀ d ∈ words, d.before args s = true := fun d hd => by
  have q := hw d hd
  have t : ∀ d ∈ words, d = .arrayClass .byte ∨ (d.onTables && d.keepsFace) = true := by decide +kernel
  rcases t d hd with rfl | t
  · exact RoadKit.mvA hZ q
  · exact RoadKit.mv hZ q t
/-- WHAT COMES BACK, over the tables of the start Z: h the heap at the call, h' behind it -/
def Q (Z : State) (x : Addr) (A : Cell) (h : Heap) (v : Option Value) (h' : Heap) (L : List Loc) : Prop := v = none ∧ (∀ y ∈ L, y.base = x) ∧ RoadKit.Keep h h' [x] ∧ h'.size = h.size + 1 ∧ RoadKit.Exa Z h' x ST ∧ RoadKit.Fld Z h' x ST "value" "[B" (.ref h.size) ∧ RoadKit.Fld Z h' x ST "coder" "B" (.int 0) ∧
  (∃ V : Cell, RoadKit.Arr Z h' h.size V .byte ∧ V.vm = .none ∧ Z.vm.findClass "[B" = some V.cls ∧ V.slots.size = A.slots.size ∧ ∀ j, j < A.slots.size → V.slots[j]? = some (.int (lo8 (cv A j)))) ∧
  ∀ (O n d : String) (w : Value), RoadKit.Fld Z h x O n d w → RoadKit.slotOf Z O n d ≠ RoadKit.slotOf Z ST "value" "[B" → RoadKit.slotOf Z O n d ≠ RoadKit.slotOf Z ST "coder" "B" → RoadKit.Fld Z h' x O n d w
/-- **new String(chars) AT A CALL, IN THE ROAD'S FORM**: for specialBack behind newO: x the fresh String, b the char[] with the cell A -/
theorem back {p : Program} {l : Launch} {e : Env} {R : Room} {s : State} {args : Array Value} {below : List Frame} {len W : Nat} {Z : State} {a0 : Array Value} {h : Heap} (hZ : Z.Warmed39 s.vm) (hw : ∀ d ∈ words, d.before a0 Z = true) {kI : Nat} (wi : (Jvm.Cond.instantiable ST kI).before a0 Z = true)
    {x b : Addr} {A : Cell} {z : Int32} {v0 c0 : Value} (E : RoadKit.Exa Z h x ST) (V : RoadKit.Fld Z h x ST "value" "[B" v0) (C : RoadKit.Fld Z h x ST "coder" "B" c0) (K : RoadKit.Arr Z h b A .char) (hty : Typed .char A) (S : RoadKit.Sta Z h ST "COMPACT_STRINGS" "Z" (.int z)) (hz : ¬ z = 0)
    (l0 : 0 < A.slots.size) (l2 : A.slots.size ≤ 536870912) (hp : ∀ i, i < A.slots.size → ¬ 255 < cv A i) (hfr : 4 ≤ R.frames) (hlo : W + 65 ≤ R.locals) :
    Back l R p e below s args New1.yN len W (fun P a => a = #[.ref x, .ref b] ∧ P.U.heap = h ∧ P.cells + 1 ≤ R.cells ∧ P.slots + A.slots.size ≤ R.slots)
      (fun P _ v B => ∃ L, Q Z x A h v B.U.heap L ∧ B.locs = P.locs ++ L ∧ B.cells = P.cells + 1 ∧ B.slots = P.slots + A.slots.size) := by
  intro m meth c P g ig mk a X hg hsize hdg hW hn hp'
  obtain ⟨rfl, rfl, r1, r2⟩ := hp'
  have al : Z.vm.Alike P.U.vm := hZ.alike.trans X.warmed.alike
  obtain ⟨D, cfV, kV, iV, fV, hD, gV, stV, knV, obV, asV, slV⟩ := id V
  obtain ⟨D', cfC, kC, iC, fC, hD', gC, stC, -, -, asC, slC⟩ := id C
  cases hD.symm.trans hD'
  obtain ⟨D2, kD, e1, e2, e3, e4, e5⟩ := id E
  cases hD.symm.trans e1
  obtain ⟨c2, k2, i1, i2, i3, -⟩ := Cond.instantiable_spec wi
  cases e2.symm.trans i1
  cases e3.symm.trans i2
  obtain ⟨kU, u1, u2⟩ := al.2.2 _ _ e3
  have hB : Blank ST x D P.U := ⟨hD, ⟨knV, fun q hq => by rw [hq] at obV; cases obV⟩, by rw [al.findClass]; exact e2, kU, u1, by rw [u2]; exact i3, by rw [u2]; exact e5 i3⟩
  have F1 : Found ST "value" "[B" fV P.U := ⟨SBG.found_only al ⟨cfV, kV, iV, gV⟩, stV⟩
  have F2 : Found ST "coder" "B" fC P.U := ⟨SBG.found_only al ⟨cfC, kC, iC, gC⟩, stC⟩
  have hA : Ch b A P.U := ⟨⟨K.1, State.isArrayOf_alike al K.2.1, K.2.2, by omega⟩, hty⟩
  have hS : StaticIs P.U ST "COMPACT_STRINGS" "Z" (.int z) := by
    obtain ⟨cfS, iS, kS, fS, st, cS, t1, t2, t3, t4, t5, t6, t7⟩ := S
    exact StaticIs.there (s := { Z with heap := P.U.heap }) ⟨cfS, iS, kS, fS, st, cS, t1, t2, t3, t4, t5, (fun q => by rw [q] at t6; cases t6), t7⟩ al rfl
  obtain ⟨v, B, X', ⟨⟨hv, E', V', q1, q2, q3, q4, q5, q6, q7, q8, q9, q10, q11⟩, hl, hc, hs⟩, st⟩ := New1.pays x D fV fC b A z (tab_of (moved hZ hw)) hfr hlo m meth c P g ig mk _ X hg hsize hdg hW hn ⟨r1, r2, rfl, hB, F1, F2, hA, hS, hz, l0, l2, hp⟩
  have al' : Z.vm.Alike B.U.vm := hZ.alike.trans X'.warmed.alike
  have hsz : E'.slots.size = D.slots.size := by
    obtain ⟨-, -, -, kB, w1, w2, w3⟩ := q1
    obtain ⟨kB', y1, y2⟩ := al'.2.2 _ _ e3
    rw [q2.2.1] at w1
    cases w1.symm.trans y1
    rw [w3, e5 i3, y2]
  refine ⟨v, B, X', ⟨_, ⟨hv, ?_, ⟨by omega, fun y cy hy hn' => q10 y cy (by simpa using hn') hy, fun y cy hy => ?_⟩, q11, ⟨E', _, q1.1, by rw [q2.2.1]; exact e2, by rw [q2.2.1]; exact e3, by rw [q2.1]; exact obV, fun _ => by rw [hsz]; exact e5 i3⟩,
    ⟨E', cfV, kV, iV, fV, q1.1, gV, stV, by rw [q2.1]; exact knV, by rw [q2.1]; exact obV, by rw [q2.2.1]; exact asV, q3⟩, ⟨E', cfC, kC, iC, fC, q1.1, gC, stC, by rw [q2.1]; exact knV, by rw [q2.1]; exact obV, by rw [q2.2.1]; exact asC, q4⟩,
    ⟨V', ⟨q5.1, State.isArrayOf_alike al'.symm q5.2.1, q5.2.2.1⟩, q6, by rw [← al'.findClass]; exact q7, q8, fun j hj => by have := q9 j hj; rwa [Nat.zero_add] at this⟩, fun O n d w F n1 n2 => ?_⟩, hl, hc, hs⟩, st⟩
  · intro y hy
    simp only [List.mem_cons, List.not_mem_nil, or_false] at hy
    rcases hy with rfl | rfl <;> rfl
  · by_cases q : y = x
    · subst q
      cases hD.symm.trans hy
      exact ⟨E', q1.1, q2.2.1, q2.1, hsz⟩
    · exact ⟨cy, q10 y cy q hy, rfl, rfl, rfl⟩
  · obtain ⟨D3, cf, k, i, f, g1, g2, g3, g4, g5, g6, g7⟩ := F
    cases hD.symm.trans g1
    simp only [RoadKit.slotOf, g2, gV, gC, Option.map_some, Option.getD_some] at n1 n2
    exact ⟨E', cf, k, i, f, q1.1, g2, g3, by rw [q2.1]; exact g4, by rw [q2.1]; exact g5, by rw [q2.2.1]; exact g6, by rw [q2.2.2 f.slot (by simp [n1, n2])]; exact g7⟩
end StrChars.Road
namespace StrChars.Road
open Jvm Sem ClassFile Op Lib Jvm.Stand Jvm.Free Jvm.Free.XT
/-- WHAT COMES BACK, the byte[] as a list of values -/
def QA (Z : State) (x : Addr) (zn : Int32) (cs : List Int32) (h : Heap) (v : Option Value) (h' : Heap) (L : List Loc) : Prop := v = none ∧ (∀ y ∈ L, y.base = x) ∧ RoadKit.Keep h h' [x] ∧ h'.size = h.size + 1 ∧ RoadKit.Exa Z h' x ST ∧ RoadKit.Fld Z h' x ST "value" "[B" (.ref h.size) ∧ RoadKit.Fld Z h' x ST "coder" "B" (.int 0) ∧
  (∃ kb, Z.vm.findClass "[B" = some kb ∧ RoadKit.Arv Z h' h.size kb .byte zn (cs.map fun c => .int (lo8 c)) (.int 0)) ∧
  ∀ (O n d : String) (w : Value), RoadKit.Fld Z h x O n d w → RoadKit.slotOf Z O n d ≠ RoadKit.slotOf Z ST "value" "[B" → RoadKit.slotOf Z O n d ≠ RoadKit.slotOf Z ST "coder" "B" → RoadKit.Fld Z h' x O n d w
/-- **new String(chars) AT A CALL, THE ARRAYS AS LISTS**: the char[] at b holds cs, not empty, no char above 255 -/
theorem backArv {p : Program} {l : Launch} {e : Env} {R : Room} {s : State} {args : Array Value} {below : List Frame} {len W : Nat} {Z : State} {a0 : Array Value} {h : Heap} (hZ : Z.Warmed39 s.vm) (hw : ∀ d ∈ words, d.before a0 Z = true) {kI : Nat} (wi : (Jvm.Cond.instantiable ST kI).before a0 Z = true)
    {x b : Addr} {k : ClassId} {zn z : Int32} {cs : List Int32} {dv v0 c0 : Value} (E : RoadKit.Exa Z h x ST) (V : RoadKit.Fld Z h x ST "value" "[B" v0) (C : RoadKit.Fld Z h x ST "coder" "B" c0) (K : RoadKit.Arv Z h b k .char zn (cs.map Value.int) dv) (S : RoadKit.Sta Z h ST "COMPACT_STRINGS" "Z" (.int z)) (hz : ¬ z = 0)
    (hlen : zn.toNatClampNeg = cs.length) (h0 : 0 < cs.length) (hbig : cs.length ≤ 536870912) (hall : ∀ c ∈ cs, ¬ 255 < c) (hfr : 4 ≤ R.frames) (hlo : W + 65 ≤ R.locals) :
    Back l R p e below s args New1.yN len W (fun P a => a = #[.ref x, .ref b] ∧ P.U.heap = h ∧ P.cells + 1 ≤ R.cells ∧ P.slots + cs.length ≤ R.slots)
      (fun P _ v B => ∃ L, QA Z x zn cs h v B.U.heap L ∧ B.locs = P.locs ++ L ∧ B.cells = P.cells + 1 ∧ B.slots = P.slots + cs.length) := by
  obtain ⟨A, K1, K2, K3, K4, K5, K6⟩ := K
  have e : A.slots.size = cs.length := K3.trans hlen
  have hat : ∀ (i : Nat) (hi : i < cs.length), A.slots[i]? = some (.int cs[i]) := fun i hi => by rw [K5 i (by omega)]; simp [List.getD_eq_getElem?_getD, hi]
  have hcv : ∀ (i : Nat) (hi : i < cs.length), cv A i = cs[i] := fun i hi => by unfold cv; rw [hat i hi]
  have hty : Typed .char A := fun i v hv => by
    have hi : i < A.slots.size := (Array.getElem?_eq_some_iff.mp hv).1
    have q := K5 i hi
    rw [hv] at q
    rw [Option.some.inj q]
    exact K6 i hi
  refine Back.mono (back hZ hw wi E V C K1 hty S hz (by omega) (by omega) (fun i hi => by rw [hcv i (by omega)]; exact hall _ (List.getElem_mem _)) hfr hlo) (fun P a hp => ⟨hp.1, hp.2.1, hp.2.2.1, by rw [e]; exact hp.2.2.2⟩) (fun P a v B hp hq => ?_)
  obtain ⟨L, ⟨q1, q2, q3, q4, q5, q6, q7, ⟨V', v1, v2, v3, v4, v5⟩, q9⟩, hl, hc, hs⟩ := hq
  refine ⟨L, ⟨q1, q2, q3, q4, q5, q6, q7, ⟨V'.cls, v3, V', v1, rfl, by rw [v4, e, hlen], K4, fun i hi => ?_, fun i hi => ?_⟩, q9⟩, hl, hc, by rw [hs, e]⟩
  · have hi' : i < cs.length := by omega
    rw [v5 i (by omega), hcv i hi']; simp [List.getD_eq_getElem?_getD, hi']
  · have hi' : i < cs.length := by omega
    simp only [List.getD_eq_getElem?_getD, List.getElem?_map, List.getElem?_eq_getElem hi', Option.map_some, Option.getD_some]
    exact fits_lo8 _
end StrChars.Road
namespace StrChars.Road
open Jvm Sem ClassFile Op Lib Jvm.Stand Jvm.Free Jvm.Free.XT
/-- WHAT COMES BACK, in the writer's own shape -/
def QV (Z : State) (x : Addr) (N : Int32) (bs : List Int32) (h : Heap) (n0 : Nat) (v : Option Value) (h' : Heap) (L : List Loc) : Prop := v = none ∧ RoadKit.Fr n0 L ∧ RoadKit.Keep h h' [x] ∧ RoadKit.Exa Z h' x ST ∧ RoadKit.Fld Z h' x ST "coder" "B" (.int 0) ∧
  ∃ (t : Addr) (kb : ClassId), n0 ≤ t ∧ h.size ≤ t ∧ ¬ t = x ∧ RoadKit.Fld Z h' x ST "value" "[B" (.ref t) ∧ RoadKit.Arv Z h' t kb .byte N (bs.map Value.int) (.int 0)
/-- **new String(chars) AT A CALL, FOR THE WRITER**: a char[] of n known ints, each 0 to 255 -/
theorem backV {p : Program} {l : Launch} {e : Env} {R : Room} {s : State} {args : Array Value} {below : List Frame} {len W : Nat} {Z : State} {a0 : Array Value} {h : Heap} (hZ : Z.Warmed39 s.vm) (hw : ∀ d ∈ words, d.before a0 Z = true) {kI : Nat} (wi : (Jvm.Cond.instantiable ST kI).before a0 Z = true)
    {x b : Addr} {kC : ClassId} {cs bs : List Int32} {d v0 c0 : Value} {z N : Int32} {n n0 : Nat} (hx0 : n0 ≤ x) (hh0 : n0 ≤ h.size) (E : RoadKit.Exa Z h x ST) (V : RoadKit.Fld Z h x ST "value" "[B" v0) (C : RoadKit.Fld Z h x ST "coder" "B" c0) (K : RoadKit.Arv Z h b kC .char N (cs.map Value.int) d) (S : RoadKit.Sta Z h ST "COMPACT_STRINGS" "Z" (.int z)) (hz : ¬ z = 0)
    (hn : cs.length = n) (hN : N = Int32.ofNat n) (l0 : 0 < n) (l2 : n ≤ 4000) (hp : ∀ c ∈ cs, ¬ c < 0 ∧ ¬ (255 : Int32) < c) (hb : bs = cs.map (fun c => c.toInt8.toInt32)) (hfr : 4 ≤ R.frames) (hlo : W + 65 ≤ R.locals) :
    Back l R p e below s args (⟨"java/lang/String", "<init>", "([C)V"⟩ : MethodName) len W (fun P a => a = #[.ref x, .ref b] ∧ P.U.heap = h ∧ P.cells + 1 ≤ R.cells ∧ P.slots + n ≤ R.slots)
      (fun P _ v B => ∃ L, QV Z x N bs h n0 v B.U.heap L ∧ B.locs = P.locs ++ L ∧ B.cells = P.cells + 1 ∧ B.slots = P.slots + n) := by
  subst hn hN hb
  refine Back.mono (backArv hZ hw wi E V C K S hz (n32 (by omega)) l0 (by omega) (fun c hc => (hp c hc).2) hfr hlo) (fun P a hp => hp) (fun P a v B hp hq => ?_)
  obtain ⟨L, ⟨q1, q2, q3, q4, q5, q6, q7, ⟨kb, v1, v2⟩, q9⟩, hl, hc, hs⟩ := hq
  exact ⟨L, ⟨q1, fun y hy => by rw [q2 y hy]; exact hx0, q3, q5, q7, h.size, kb, hh0, Nat.le_refl _, Nat.ne_of_gt E.lt, q6, by rw [List.map_map]; exact v2⟩, hl, hc, hs⟩
end StrChars.Road
end Jvm.Pilot.@@N@@
namespace Jvm.OwnKit
open Jvm Jvm.ClassFile Sem Op Lib Jvm.Free Jvm.Stand Jvm.LawKit Jvm.RoadKit Bundle
/-- what is left to show of a walk that stands at S: it ends, and Q holds there -/
def Go (tb : Tables) (e : Env) (below : List Frame) (Q : Outcome → State → Prop) (S : State) : Prop :=
  ∃ (U : State) (o : Outcome), Steps tb e below S U ∧ U.status = .running ∧ Ended U below o ∧ Q o U
section
variable {tb : Tables} {e : Env} {below : List Frame} {Q : Outcome → State → Prop} {S S' : State}
theorem Go.st (f : ∀ {t : State}, Steps tb e below S' t → Steps tb e below S t) (h : Go tb e below Q S') : Go tb e below Q S := by
  obtain ⟨U, o, h1, h2⟩ := h
  exact ⟨U, o, f h1, h2⟩
theorem Go.to (f : ∀ t : State, Steps tb e below S' t → Steps tb e below S t) (h : Go tb e below Q S') : Go tb e below Q S := Go.st (fun {t} => f t) h
theorem Go.run (f : Steps tb e below S S') (h : Go tb e below Q S') : Go tb e below Q S := by
  obtain ⟨U, o, h1, h2⟩ := h
  exact ⟨U, o, f.trans h1, h2⟩
end
theorem castGo {tb : Tables} {e : Env} {below : List Frame} {Q : Outcome → State → Prop} {T : State} {g g' : JFrame} (q : g = g') (k : Go tb e below Q (T.setTop g')) : Go tb e below Q (T.setTop g) := q ▸ k
/-- the end of a plain walk -/
def PEnd (s : State) (Qc : Option Value → Heap → List Loc → Prop) (kc ks : Nat) (o : Outcome) (U : State) : Prop :=
  ∃ v L, o = .returned v ∧ Qc v U.heap L ∧ FrameEnd s o U L kc ks
/-- a plain contract: from the heap h with these arguments it returns, Qc holds, the room is kept -/
def Con (l : Launch) (Z : State) (y : MethodName) (bytes : ByteArray) (maxL : Nat) (ret : Option FieldType) (rm : Room) (as' : Array Value) (h : Heap) (Qc : Option Value → Heap → List Loc → Prop) : Prop :=
  ∀ ws : List Jvm.Cond, MetFree l y (head1 (Jvm.Cond.code y bytes maxL ret :: ws) rm) (fun a U => a = as' ∧ Z.Warmed39 U.vm ∧ U.heap = h) (fun _ _ _ _ _ => True) (fun _ U o U' => PEnd U Qc rm.cells rm.slots o U')
theorem Con.intro {l : Launch} {Z : State} {y : MethodName} {bytes : ByteArray} {maxL : Nat} {ret : Option FieldType} {rm : Room} {as' : Array Value} {h : Heap} {Qc : Option Value → Heap → List Loc → Prop} (pn : plainFor y = true)
    (body : ∀ (p : Program) (e : Env) (s : State) (m : MethodId) (below : List Frame) (meth : Method) (c : Code) (T : State), Stand p l e rm s m as' below meth c T [] 0 0 → p.tables.exec = Jvm.exec → c.code = bytes → c.maxLocals = maxL →
      s.vm.findClass y.cls = some m.cls → meth.name = y.name → meth.sig.returnType = ret → meth.locks = false → Z.Warmed39 s.vm → T.heap = h →
      Go p.tables e below (PEnd s Qc rm.cells rm.slots) (T.setTop (entryFrame m as' maxL))) : Con l Z y bytes maxL ret rm as' h Qc := by
  intro ws
  refine MetFree.of_bodySF pn hisR ?_
  intro p e s m args below meth c s₁ Bd hml0 hP hK
  obtain ⟨rfl, hZ, hh⟩ := hP
  exact body p e s m below meth c s₁ (Stand.of_body Bd) Bd.exec Bd.bytes hml0 (findClass_of_methodNamed Bd.named) (name_of_methodNamed Bd.named Bd.method).1 Bd.returns Bd.notSynchronized hZ (by rw [← hh, Bd.state]; rfl)
/-- the end of a walk that may have interned -/
def SEnd (Z : State) (EL : List (String × Nat)) (s : State) (Qc : Option Value → Heap → List Loc → Prop) (kc ks : Nat) (o : Outcome) (U : State) : Prop :=
  ∃ v L, o = .returned v ∧ Qc v U.heap L ∧ CHr Z EL s.vm s.heap U.vm U.heap ∧ ReturnedEndW s o U L kc ks
/-- a contract of a method that may load String constants; sl: cells that no constant uses -/
def ConS (l : Launch) (Z : State) (EL : List (String × Nat)) (y : MethodName) (bytes : ByteArray) (maxL : Nat) (ret : Option FieldType) (rm : Room) (as' : Array Value) (h : Heap) (sl : List Addr) (Qc : Option Value → Heap → List Loc → Prop) : Prop :=
  ∀ ws : List Jvm.Cond, MetFree l y (head1 (Jvm.Cond.code y bytes maxL ret :: ws) rm) (fun a U => a = as' ∧ Z.Warmed39 U.vm ∧ U.heap = h ∧ CHv Z EL U.vm h ∧ ∀ x ∈ sl, Safe Z EL U.vm h x) (fun _ _ _ _ _ => True) (fun _ U o U' => SEnd Z EL U Qc rm.cells rm.slots o U')
theorem ConS.intro {l : Launch} {Z : State} {EL : List (String × Nat)} {y : MethodName} {bytes : ByteArray} {maxL : Nat} {ret : Option FieldType} {rm : Room} {as' : Array Value} {h : Heap} {sl : List Addr} {Qc : Option Value → Heap → List Loc → Prop} (pn : plainFor y = true)
    (body : ∀ (p : Program) (e : Env) (s : State) (m : MethodId) (below : List Frame) (meth : Method) (c : Code) (T : State) (v0 : Vm), Stand p l e rm (s.setVm v0) m as' below meth c T [] 0 0 → p.tables.exec = Jvm.exec → c.code = bytes → c.maxLocals = maxL →
      v0.findClass y.cls = some m.cls → meth.name = y.name → meth.sig.returnType = ret → meth.locks = false → Z.Warmed39 v0 → T.heap = h → s.Since v0 0 → CHr Z EL s.vm s.heap v0 h → (∀ x ∈ sl, Safe Z EL v0 h x) →
      Go p.tables e below (SEnd Z EL s Qc rm.cells rm.slots) (T.setTop (entryFrame m as' maxL))) : ConS l Z EL y bytes maxL ret rm as' h sl Qc := by
  intro ws
  refine MetFree.of_bodySF pn hisR ?_
  intro p e s m args below meth c s₁ Bd hml0 hP hK
  obtain ⟨rfl, hZ, hh, hC, hs⟩ := hP
  exact body p e s m below meth c s₁ s.vm (Stand.of_body Bd) Bd.exec Bd.bytes hml0 (findClass_of_methodNamed Bd.named) (name_of_methodNamed Bd.named Bd.method).1 Bd.returns Bd.notSynchronized hZ (by rw [← hh, Bd.state]; rfl) ((State.WarmedH.refl s).since 0) (by rw [hh]; exact CHr.refl hC) hs
section Ends
variable {p : Program} {l : Launch} {e : Env} {R : Room} {s : State} {m : MethodId} {args : Array Value} {below : List Frame} {meth : Method} {c : Code} {T : State} {locs : List Loc} {cells slots : Nat} {Z : State} {a0 : Array Value} {EL : List (String × Nat)} {h : Heap} {Qc : Option Value → Heap → List Loc → Prop} {kc ks pc : Nat} {Ls : Array Slot} {rest : List Value} {vm1 : Vm} {n1 : Nat}
/-- any plain end, its last step given -/
theorem endP (X : Stand p l e R s m args below meth c T locs cells slots) (hlk : meth.locks = false) {v : Option Value} (hv : meth.sig.returnType = none → v = none) {S : State}
    (hst : ∀ fs : List Frame, (∀ (f : JFrame) (acts : List Action), f.method = m → f.locked = none → f.entered = [] → (doReturn e (T.setTop f) acts v).1 = T.setFrames fs) → Steps p.tables e below S (T.setFrames fs))
    (hq : Qc v T.heap locs) (h1 : cells ≤ kc) (h2 : slots ≤ ks) : Go p.tables e below (PEnd s Qc kc ks) S := by
  obtain ⟨fs, hr, hrun, hended, hW, hsame⟩ := X.leave (v := v) hv hlk
  exact ⟨_, _, hst fs hr, hrun, hended, _, _, rfl, hq, ⟨_, rfl⟩, hW, hsame.mono h1 h2⟩
theorem mono_sbn {s t : State} {L : List Loc} {k n k' n' : Nat} {o : Outcome} (h : ReturnedEndW s o t L k n) (h1 : k ≤ k') (h2 : n ≤ n') : ReturnedEndW s o t L k' n' := ⟨h.1, h.2.1, h.2.2.1, h.2.2.2.mono h1 h2⟩
theorem endC (X : Stand p l e R (s.setVm vm1) m args below meth c T locs cells slots) (hlk : meth.locks = false) (hS : s.Since vm1 n1) (hk : n1 ≤ T.heap.size) (hZ : Z.Warmed39 vm1) (w : EW Z a0 EL) (C : CHr Z EL s.vm s.heap vm1 T.heap) {v : Option Value} (hv : meth.sig.returnType = none → v = none) {S : State}
    (hst : ∀ fs : List Frame, (∀ (f : JFrame) (acts : List Action), f.method = m → f.locked = none → f.entered = [] → (doReturn e (T.setTop f) acts v).1 = T.setFrames fs) → Steps p.tables e below S (T.setFrames fs))
    (hq : Qc v T.heap locs) (h1 : cells ≤ kc) (h2 : slots ≤ ks) : Go p.tables e below (SEnd Z EL s Qc kc ks) S := by
  obtain ⟨fs, hr, hrun, hended, hW⟩ := X.leaveW hS hk (v := v) hv hlk
  have hC : CHr Z EL s.vm s.heap T.vm T.heap := C.trans (CHv.at X hZ w C.1)
  exact ⟨_, _, hst fs hr, hrun, hended, _, _, rfl, hq, hC, mono_sbn hW h1 h2⟩
/-- the last steps -/
theorem lastV (X : Stand p l e R s m args below meth c T locs cells slots) (hx : p.tables.exec = Jvm.exec) (hret : meth.sig.returnType = none) (hd : decode c.code pc = .ok (.return_, 1)) : ∀ fs : List Frame, (∀ (f : JFrame) (acts : List Action), f.method = m → f.locked = none → f.entered = [] → (doReturn e (T.setTop f) acts none).1 = T.setFrames fs) →
    Steps p.tables e below (T.setTop (mkF m pc Ls [])) (T.setFrames fs) := fun fs hr => X.returnOut hx hret hd hr
theorem lastN (X : Stand p l e R s m args below meth c T locs cells slots) (hx : p.tables.exec = Jvm.exec) {z z' : Int32} {t : FieldType} (hret : meth.sig.returnType = some t) (ht : t = .boolean ∨ t = .byte ∨ t = .char ∨ t = .short) (hz : nar t z = z') (hd : decode c.code pc = .ok (.ireturn, 1)) :
    ∀ fs : List Frame, (∀ (f : JFrame) (acts : List Action), f.method = m → f.locked = none → f.entered = [] → (doReturn e (T.setTop f) acts (some (.int z'))).1 = T.setFrames fs) → Steps p.tables e below (T.setTop (mkF m pc Ls (.int z :: rest))) (T.setFrames fs) := fun fs hr => by
  subst hz; exact retN X hx hret ht hd hr
theorem lastI (X : Stand p l e R s m args below meth c T locs cells slots) (hx : p.tables.exec = Jvm.exec) {z : Int32} (hret : meth.sig.returnType = some .int) (hd : decode c.code pc = .ok (.ireturn, 1)) :
    ∀ fs : List Frame, (∀ (f : JFrame) (acts : List Action), f.method = m → f.locked = none → f.entered = [] → (doReturn e (T.setTop f) acts (some (.int z))).1 = T.setFrames fs) → Steps p.tables e below (T.setTop (mkF m pc Ls (.int z :: rest))) (T.setFrames fs) := fun fs hr =>
  retOut X hx hret rfl (Or.inl ⟨rfl, Or.inl rfl, z, rfl⟩) hd hr
theorem lastA (X : Stand p l e R s m args below meth c T locs cells slots) (hx : p.tables.exec = Jvm.exec) {w : Value} {t : FieldType} (hret : meth.sig.returnType = some t) (ht : t.isReference = true) (hn : narrow t w = w) (hw : w.isRef = true) (hd : decode c.code pc = .ok (.areturn, 1)) :
    ∀ fs : List Frame, (∀ (f : JFrame) (acts : List Action), f.method = m → f.locked = none → f.entered = [] → (doReturn e (T.setTop f) acts (some w)).1 = T.setFrames fs) → Steps p.tables e below (T.setTop (mkF m pc Ls (w :: rest))) (T.setFrames fs) := fun fs hr =>
  retOut X hx hret hn (Or.inr (Or.inr (Or.inr (Or.inr ⟨rfl, ht, hw⟩)))) hd hr
end Ends
/-- what pays a call: from the heap h, k cells and n slots -/
abbrev BackQ (l : Launch) (R : Room) (p : Program) (e : Env) (below : List Frame) (s : State) (sargs : Array Value) (y : MethodName) (len W : Nat) (as' : Array Value) (h : Heap) (k n : Nat) (Q : Option Value → Heap → List Loc → Prop) : Prop :=
  Back l R p e below s sargs y len W (fun A a => a = as' ∧ A.U.heap = h ∧ A.cells + k ≤ R.cells ∧ A.slots + n ≤ R.slots) (fun A _ v B => ∃ L, Q v B.U.heap L ∧ B.locs = A.locs ++ L ∧ B.cells = A.cells + k ∧ B.slots = A.slots + n)
abbrev BackSQ (l : Launch) (R : Room) (p : Program) (e : Env) (below : List Frame) (s : State) (vm0 : Vm) (sargs : Array Value) (y : MethodName) (len W : Nat) (as' : Array Value) (h : Heap) (k n : Nat) (Z : State) (EL : List (String × Nat)) (Q : Option Value → Heap → List Loc → Prop) : Prop :=
  BackS l R p e below (s.setVm vm0) sargs y len W (fun A a => a = as' ∧ A.U.heap = h ∧ A.cells + k ≤ R.cells ∧ A.slots + n ≤ R.slots) (fun A _ v B => ∃ L, Q v B.U.heap L ∧ B.locs = A.locs ++ L ∧ B.cells = A.cells + k ∧ B.slots = A.slots + n ∧ CHr Z EL vm0 h B.U.vm B.U.heap)
section Calls
variable {p : Program} {l : Launch} {e : Env} {R : Room} {s : State} {m : MethodId} {args : Array Value} {below : List Frame} {meth : Method} {c : Code} {T : State} {locs : List Loc} {cells slots : Nat} {Z : State} {a0 : Array Value} {EL : List (String × Nat)} {h : Heap} {Qc : Option Value → Heap → List Loc → Prop} {vm0 : Vm} {n0 : Nat}
  {y z : MethodName} {bytes : ByteArray} {maxL : Nat} {ret : Option FieldType} {rm : Room} {as' : Array Value} {own C : String} {index count W k n len : Nat} {g : JFrame} {a : Addr} {argsL rest : List Value}
theorem Con.back (hM : Con l Z y bytes maxL ret rm as' h Qc) (hZ : Z.Warmed39 s.vm) (wc : (Jvm.Cond.code y bytes maxL ret).before a0 Z = true) (wz : (Jvm.Cond.initialized y.cls).before a0 Z = true) (hf : rm.frames + 1 ≤ R.frames) (hl : W + (maxL + 11) + rm.locals ≤ R.locals) :
    BackQ l R p e below s args y len W as' h rm.cells rm.slots Qc := backOf (Q := Qc) (hM []) hZ wc wz hf hl
theorem ConS.back {sl : List Addr} (hM : ConS l Z EL y bytes maxL ret rm as' h sl Qc) (hZ : Z.Warmed39 vm0) (wc : (Jvm.Cond.code y bytes maxL ret).before a0 Z = true) (wz : (Jvm.Cond.initialized y.cls).before a0 Z = true) (hf : rm.frames + 1 ≤ R.frames) (hl : W + (maxL + 11) + rm.locals ≤ R.locals) (hEL : EW Z a0 EL) (H : CHv Z EL vm0 h)
    (hs : ∀ x ∈ sl, Safe Z EL vm0 h x) (hlt : ∀ x ∈ sl, x < h.size) : BackSQ l R p e below s vm0 args y len W as' h rm.cells rm.slots Z EL Qc :=
  BackS.of_freeW (bytes := bytes) (maxL := maxL) (ret := ret) (E := fun _ first o t L k n => k = rm.cells ∧ n = rm.slots ∧ (∃ v, o = .returned v ∧ Qc v t.heap L) ∧ CHr Z EL first.vm first.heap t.vm t.heap) (hM []) hf hl
    (fun m meth c A a Y hp => have hU : Z.Warmed39 A.U.vm := wtrans (s := s.setVm vm0) hZ Y.warmed
      ⟨by show (Cond.and _ .tt).before a A.U = true; rw [Cond.before_and, mv hU wc]; rfl, mv hU wc, mv hU wz, hp.2.2.1, hp.2.2.2⟩)
    (fun m meth c A a g mk Y hp => ⟨hp.1, wtrans (s := s.setVm vm0) hZ Y.warmed, hp.2.1, (CHv.at Y hZ hEL H).1, fun x hx => (CHv.at Y hZ hEL H).safe (hlt x hx) (hs x hx)⟩) (fun _ _ _ _ _ _ _ _ _ => trivial)
    (fun _ _ _ _ ⟨v, L, h1, h2, h3, h4⟩ => ⟨L, _, _, h4, rfl, rfl, ⟨v, h1, h2⟩, h3⟩)
    (fun m meth c A a g mk v t L k n Y hp _ _ ⟨e1, e2, ⟨v', e3, e4⟩, e5⟩ => by
      cases e3; subst e1 e2
      refine ⟨L, e4, rfl, rfl, rfl, (CHv.at Y hZ hEL H).trans ?_⟩
      rw [← hp.2.1]; exact e5)
theorem callSp (X : Stand p l e R s m args below meth c T locs cells slots) (hx : p.tables.exec = Jvm.exec) (hZ : Z.Warmed39 s.vm) (hown : s.vm.findClass own = some m.cls) (hy1 : y.name = "<init>") (w1 : (Jvm.Cond.methodLink own index y).before a0 Z = true) (w2 : (Jvm.Cond.instanceMethod y).before a0 Z = true) (w3 : (Jvm.Cond.code y bytes maxL none).before a0 Z = true)
    (hyc : y.cls ≠ "java/lang/invoke/MethodHandle" ∧ y.cls ≠ "java/lang/invoke/VarHandle") (eT : T.heap = h) (hK : BackQ l R p e below s args y 3 W (.ref a :: argsL).toArray h k n Qc)
    (hg : g.method = m) (hsize : g.locals.size = c.maxLocals) (hlen : ∀ sig, parseMethodDescriptor y.desc = some sig → argsL.length = sig.parameters.length) (hstack : g.stack = argsL.reverse ++ .ref a :: rest) (hW : 2 * g.monitorRoom + (rest.map fun v => v.category).sum ≤ W)
    (hdg : decode c.code g.pc = .ok (.invokespecial index, 3)) (hc : cells + k ≤ R.cells) (hs : slots + n ≤ R.slots) :
    ∃ v T' L, Stand p l e R s m args below meth c T' (locs ++ L) (cells + k) (slots + n) ∧ Qc v T'.heap L ∧ Steps p.tables e below (T.setTop g) (T'.setTop { g with pc := g.pc + 3, stack := v.toList ++ rest }) := by
  obtain ⟨v, vm1, ⟨T', L', k', n'⟩, -, X', ⟨L, hQ, rfl, rfl, rfl⟩, st⟩ := X.specialBack hx hy1 hown (mvT hZ w1) (mvT hZ w2) (mvT hZ w3) hyc hK hg hsize (Steps.refl _) hlen hstack hW hdg (fun _ _ => ⟨rfl, eT, hc, hs⟩)
  exact ⟨v, T', L, X', hQ, st⟩
theorem callVi (X : Stand p l e R s m args below meth c T locs cells slots) (hx : p.tables.exec = Jvm.exec) (hZ : Z.Warmed39 s.vm) (hown : s.vm.findClass own = some m.cls) (w1 : (Jvm.Cond.methodLink own index y).before a0 Z = true) (w2 : (Jvm.Cond.declares y).before a0 Z = true) (nf : NotFace s y) (w4 : (Jvm.Cond.selects C y z).before a0 Z = true) (w5 : (Jvm.Cond.instanceMethod z).before a0 Z = true)
    (hyc : y.cls ≠ "java/lang/invoke/MethodHandle" ∧ y.cls ≠ "java/lang/invoke/VarHandle") (eT : T.heap = h) (E : Exa Z h a C) (hK : BackQ l R p e below s args z 3 W (.ref a :: argsL).toArray h k n Qc)
    (hg : g.method = m) (hsize : g.locals.size = c.maxLocals) (hlen : ∀ sig, parseMethodDescriptor y.desc = some sig → argsL.length = sig.parameters.length) (hstack : g.stack = argsL.reverse ++ .ref a :: rest) (hW : 2 * g.monitorRoom + (rest.map fun v => v.category).sum ≤ W)
    (hdg : decode c.code g.pc = .ok (.invokevirtual index, 3)) (hc : cells + k ≤ R.cells) (hs : slots + n ≤ R.slots) :
    ∃ v T' L, Stand p l e R s m args below meth c T' (locs ++ L) (cells + k) (slots + n) ∧ Qc v T'.heap L ∧ Steps p.tables e below (T.setTop g) (T'.setTop { g with pc := g.pc + 3, stack := v.toList ++ rest }) := by
  obtain ⟨cB, kB, q1, q2, q3⟩ := isOf hZ eT E
  obtain ⟨v, vm1, ⟨T', L', k', n'⟩, -, X', ⟨L, hQ, rfl, rfl, rfl⟩, st⟩ := X.virtualBack hx hown (mvT hZ w1) (mvT hZ w2) nf (mvT hZ w4) (mvT hZ w5) hyc hK q1 q3 hg hsize (Steps.refl _) hlen hstack hW hdg (fun _ _ => ⟨rfl, eT, hc, hs⟩)
  exact ⟨v, T', L, X', hQ, st⟩
theorem callSt (X : Stand p l e R s m args below meth c T locs cells slots) (hx : p.tables.exec = Jvm.exec) (hZ : Z.Warmed39 s.vm) (hown : s.vm.findClass own = some m.cls) (w1 : (Jvm.Cond.methodLink own index y).before a0 Z = true) (w2 : (Jvm.Cond.static y).before a0 Z = true) (w3 : (Jvm.Cond.initialized y.cls).before a0 Z = true) (w4 : (Jvm.Cond.code y bytes maxL ret).before a0 Z = true)
    (hyc : y.cls ≠ "java/lang/invoke/MethodHandle" ∧ y.cls ≠ "java/lang/invoke/VarHandle") (eT : T.heap = h) (hK : BackQ l R p e below s args y 3 W argsL.toArray h k n Qc)
    (hg : g.method = m) (hsize : g.locals.size = c.maxLocals) (hlen : ∀ sig, parseMethodDescriptor y.desc = some sig → argsL.length = sig.parameters.length) (hstack : g.stack = argsL.reverse ++ rest) (hW : 2 * g.monitorRoom + (rest.map fun v => v.category).sum ≤ W)
    (hdg : decode c.code g.pc = .ok (.invokestatic index, 3)) (hc : cells + k ≤ R.cells) (hs : slots + n ≤ R.slots) :
    ∃ v T' L, Stand p l e R s m args below meth c T' (locs ++ L) (cells + k) (slots + n) ∧ Qc v T'.heap L ∧ Steps p.tables e below (T.setTop g) (T'.setTop { g with pc := g.pc + 3, stack := v.toList ++ rest }) := by
  obtain ⟨v, vm1, ⟨T', L', k', n'⟩, -, X', ⟨L, hQ, rfl, rfl, rfl⟩, st⟩ := Jvm.LawKit.callS X hx hown (mvT hZ w1) (mvT hZ w2) (mvT hZ w3) (mvT hZ w4) hyc hK hg hsize hlen hstack hW hdg (fun _ _ => ⟨rfl, eT, hc, hs⟩)
  exact ⟨v, T', L, X', hQ, st _ (Steps.refl _)⟩
/-- what stands behind a call that may have interned -/
def AfterS (p : Program) (l : Launch) (e : Env) (R : Room) (s : State) (m : MethodId) (args : Array Value) (below : List Frame) (meth : Method) (c : Code) (Z : State) (EL : List (String × Nat)) (own : String) (vm0 : Vm) (h : Heap) (T' : State) (locs : List Loc) (cells slots : Nat) : Prop :=
  Stand p l e R (s.setVm T'.vm) m args below meth c T' locs cells slots ∧ s.Since T'.vm T'.heap.size ∧ Z.Warmed39 T'.vm ∧ T'.vm.findClass own = some m.cls ∧ CHr Z EL vm0 h T'.vm T'.heap
theorem callViS (X : Stand p l e R (s.setVm vm0) m args below meth c T locs cells slots) (hx : p.tables.exec = Jvm.exec) (hZ : Z.Warmed39 vm0) (hown : vm0.findClass own = some m.cls) (hS : s.Since vm0 n0) (hk : n0 ≤ h.size) (w1 : (Jvm.Cond.methodLink own index y).before a0 Z = true) (w2 : (Jvm.Cond.declares y).before a0 Z = true) (nf : NotFace (s.setVm vm0) y) (w4 : (Jvm.Cond.selects C y z).before a0 Z = true) (w5 : (Jvm.Cond.instanceMethod z).before a0 Z = true)
    (hyc : y.cls ≠ "java/lang/invoke/MethodHandle" ∧ y.cls ≠ "java/lang/invoke/VarHandle") (eT : T.heap = h) (E : Exa Z h a C) (hK : BackSQ l R p e below s vm0 args z 3 W (.ref a :: argsL).toArray h k n Z EL Qc)
    (hg : g.method = m) (hsize : g.locals.size = c.maxLocals) (hlen : ∀ sig, parseMethodDescriptor y.desc = some sig → argsL.length = sig.parameters.length) (hstack : g.stack = argsL.reverse ++ .ref a :: rest) (hW : 2 * g.monitorRoom + (rest.map fun v => v.category).sum ≤ W)
    (hdg : decode c.code g.pc = .ok (.invokevirtual index, 3)) (hc : cells + k ≤ R.cells) (hs : slots + n ≤ R.slots) :
    ∃ v T' L, AfterS p l e R s m args below meth c Z EL own vm0 h T' (locs ++ L) (cells + k) (slots + n) ∧ Qc v T'.heap L ∧ Steps p.tables e below (T.setTop g) (T'.setTop { g with pc := g.pc + 3, stack := v.toList ++ rest }) := by
  obtain ⟨cB, kB, q1, q2, q3⟩ := isOf (s := s.setVm vm0) hZ eT E
  obtain ⟨v, vm1, ⟨T', L', k', n'⟩, -, X', h2, gr, ⟨L, hQ, rfl, rfl, rfl, hC⟩, st⟩ := X.virtualBackS hx hown (mvT hZ w1) (mvT hZ w2) nf (mvT hZ w4) (mvT hZ w5) hyc hK q1 q3 hg hsize (Steps.refl _) hlen hstack hW hdg (fun _ _ => ⟨rfl, eT, hc, hs⟩)
  obtain ⟨b1, b2, b3, b4⟩ := rebS hS (eT ▸ hk) X' h2 gr hZ hown
  exact ⟨v, T', L, ⟨b1, b2, b3, b4, hC⟩, hQ, st⟩
theorem callStS (X : Stand p l e R (s.setVm vm0) m args below meth c T locs cells slots) (hx : p.tables.exec = Jvm.exec) (hZ : Z.Warmed39 vm0) (hown : vm0.findClass own = some m.cls) (hS : s.Since vm0 n0) (hk : n0 ≤ h.size) (w1 : (Jvm.Cond.methodLink own index y).before a0 Z = true) (w2 : (Jvm.Cond.static y).before a0 Z = true) (w3 : (Jvm.Cond.initialized y.cls).before a0 Z = true) (w4 : (Jvm.Cond.code y bytes maxL ret).before a0 Z = true)
    (hyc : y.cls ≠ "java/lang/invoke/MethodHandle" ∧ y.cls ≠ "java/lang/invoke/VarHandle") (eT : T.heap = h) (hK : BackSQ l R p e below s vm0 args y 3 W argsL.toArray h k n Z EL Qc)
    (hg : g.method = m) (hsize : g.locals.size = c.maxLocals) (hlen : ∀ sig, parseMethodDescriptor y.desc = some sig → argsL.length = sig.parameters.length) (hstack : g.stack = argsL.reverse ++ rest) (hW : 2 * g.monitorRoom + (rest.map fun v => v.category).sum ≤ W)
    (hdg : decode c.code g.pc = .ok (.invokestatic index, 3)) (hc : cells + k ≤ R.cells) (hs : slots + n ≤ R.slots) :
    ∃ v T' L, AfterS p l e R s m args below meth c Z EL own vm0 h T' (locs ++ L) (cells + k) (slots + n) ∧ Qc v T'.heap L ∧ Steps p.tables e below (T.setTop g) (T'.setTop { g with pc := g.pc + 3, stack := v.toList ++ rest }) := by
  obtain ⟨v, vm1, ⟨T', L', k', n'⟩, -, X', h2, gr, ⟨L, hQ, rfl, rfl, rfl, hC⟩, st⟩ := callSS X hx hown (mvT hZ w1) (mvT hZ w2) (mvT hZ w3) (mvT hZ w4) hyc hK hg hsize hlen hstack hW hdg (fun _ _ => ⟨rfl, eT, hc, hs⟩)
  obtain ⟨b1, b2, b3, b4⟩ := rebS hS (eT ▸ hk) X' h2 gr hZ hown
  exact ⟨v, T', L, ⟨b1, b2, b3, b4, hC⟩, hQ, st⟩
end Calls
section Arrays
variable {p : Program} {l : Launch} {e : Env} {R : Room} {s : State} {m : MethodId} {args : Array Value} {below : List Frame} {meth : Method} {c : Code} {T : State} {locs : List Loc} {cells slots : Nat} {Z : State} {a0 : Array Value} {h : Heap} {g : JFrame} {rest : List Value} {a : Addr} {k : ClassId} {ty : FieldType} {z j x x' : Int32} {i : Nat} {vs : List Value} {d v : Value}
theorem newArr (X : Stand p l e R s m args below meth c T locs cells slots) (hx : p.tables.exec = Jvm.exec) (hZ : Z.Warmed39 s.vm) {aty : ArrayType} (w : (Jvm.Cond.arrayClass (newarray.typeOf aty)).before a0 Z = true) (eT : T.heap = h) (hg : g.method = m) (hd : decode c.code g.pc = .ok (.newarray aty, 2)) {n : Int32} (hs : g.stack = .int n :: rest)
    (hn : ¬ n < 0) {q : Nat} (hq : n.toNatClampNeg = q) (hb : q * 8 ≤ 536870912) (hc : cells + 1 ≤ R.cells) (hl : slots + q ≤ R.slots) :
    ∃ T' h' cA, Stand p l e R s m args below meth c T' locs (cells + 1) (slots + q) ∧ T'.heap = h' ∧ Ext h h' ∧ Arv Z h' h.size cA (newarray.typeOf aty) n (List.replicate q (defaultValue (newarray.typeOf aty))) (defaultValue (newarray.typeOf aty)) ∧
      ∀ target, Steps p.tables e below (T'.setTop { g with pc := g.pc + 2, stack := .ref h.size :: rest }) target → Steps p.tables e below (T.setTop g) target := by
  obtain ⟨T', h', cA, X', e', E', A', st⟩ := newP X hx hZ w eT hg hd hs hn (cap := q) (Nat.le_of_eq hq) hb hc hl
  exact ⟨T', h', cA, X', e', E', (Arv.new A' hn).pad (fun i => by have := pad_rep [] (defaultValue (newarray.typeOf aty)) q i; simpa using this), st⟩
theorem setC (X : Stand p l e R s m args below meth c T locs cells slots) (hx : p.tables.exec = Jvm.exec) (hZ : Z.Warmed39 s.vm) (eT : T.heap = h) (A : Arv Z h a k .char z vs d) (hj : j.toNatClampNeg = i) (h0 : ¬ j < 0) (hjz : j < z) (hi : i < vs.length) (hn : nar .char x = x') (hg : g.method = m) (hs : g.stack = .int x :: .int j :: .ref a :: rest) (hd : decode c.code g.pc = .ok (.castore, 1)) :
    ∃ T' h', Stand p l e R s m args below meth c T' (locs ++ [⟨a, i⟩]) cells slots ∧ T'.heap = h' ∧ Wr h h' a i (.int x') ∧ Arv Z h' a k .char z (vs.set i (.int x')) d ∧ ∀ target, Steps p.tables e below (T'.setTop { g with pc := g.pc + 1, stack := rest }) target → Steps p.tables e below (T.setTop g) target := by
  subst hj hn
  obtain ⟨cl, A1, A2, A3, A4, A5, A6⟩ := A
  obtain ⟨T', h', X', e', W', st⟩ := stC X hx hZ eT A1 (inb_of A3 ⟨h0, hjz⟩) hg hs hd
  exact ⟨T', h', X', e', W', Arv.set A1 A2 A3 A4 A5 A6 (fits_nar_char x) W' _ rfl hi, st⟩
theorem setB (X : Stand p l e R s m args below meth c T locs cells slots) (hx : p.tables.exec = Jvm.exec) (hZ : Z.Warmed39 s.vm) (eT : T.heap = h) (A : Arv Z h a k .byte z vs d) (hj : j.toNatClampNeg = i) (h0 : ¬ j < 0) (hjz : j < z) (hi : i < vs.length) (hn : nar .byte x = x') (hg : g.method = m) (hs : g.stack = .int x :: .int j :: .ref a :: rest) (hd : decode c.code g.pc = .ok (.bastore, 1)) :
    ∃ T' h', Stand p l e R s m args below meth c T' (locs ++ [⟨a, i⟩]) cells slots ∧ T'.heap = h' ∧ Wr h h' a i (.int x') ∧ Arv Z h' a k .byte z (vs.set i (.int x')) d ∧ ∀ target, Steps p.tables e below (T'.setTop { g with pc := g.pc + 1, stack := rest }) target → Steps p.tables e below (T.setTop g) target := by
  subst hj hn
  obtain ⟨cl, A1, A2, A3, A4, A5, A6⟩ := A
  obtain ⟨T', h', X', e', W', st⟩ := stB X hx hZ eT A1 (inb_of A3 ⟨h0, hjz⟩) hg hs hd
  exact ⟨T', h', X', e', W', Arv.set A1 A2 A3 A4 A5 A6 (fits_nar_byte x) W' _ rfl hi, st⟩
theorem ldC (X : Stand p l e R s m args below meth c T locs cells slots) (hx : p.tables.exec = Jvm.exec) (hZ : Z.Warmed39 s.vm) (eT : T.heap = h) (A : Arv Z h a k .char z vs d) (hj : j.toNatClampNeg = i) (h0 : ¬ j < 0) (hjz : j < z) (hv : vs.getD i d = v) (hg : g.method = m) (hs : g.stack = .int j :: .ref a :: rest) (hd : decode c.code g.pc = .ok (.caload, 1)) :
    ∀ target, Steps p.tables e below (T.setTop { g with pc := g.pc + 1, stack := v :: rest }) target → Steps p.tables e below (T.setTop g) target := by
  subst hj hv
  obtain ⟨cl, A1, A2, A3, A4, A5, A6⟩ := A
  exact X.caload hx (by rw [eT]; exact A1.1) (State.isArrayOf_alike hZ.alike A1.2.1) A1.2.2 (inb_of A3 ⟨h0, hjz⟩) (A5.at (inb_of A3 ⟨h0, hjz⟩) rfl) hg hs hd
theorem ldB (X : Stand p l e R s m args below meth c T locs cells slots) (hx : p.tables.exec = Jvm.exec) (hZ : Z.Warmed39 s.vm) (eT : T.heap = h) (A : Arv Z h a k .byte z vs d) (hj : j.toNatClampNeg = i) (h0 : ¬ j < 0) (hjz : j < z) (hv : vs.getD i d = v) (hg : g.method = m) (hs : g.stack = .int j :: .ref a :: rest) (hd : decode c.code g.pc = .ok (.baload, 1)) :
    ∀ target, Steps p.tables e below (T.setTop { g with pc := g.pc + 1, stack := v :: rest }) target → Steps p.tables e below (T.setTop g) target := by
  subst hj hv
  obtain ⟨cl, A1, A2, A3, A4, A5, A6⟩ := A
  exact X.baloadBytes hx (by rw [eT]; exact A1.1) (State.isArrayOf_alike hZ.alike A1.2.1) A1.2.2 (inb_of A3 ⟨h0, hjz⟩) (A5.at (inb_of A3 ⟨h0, hjz⟩) rfl) hg hs hd
theorem alen (X : Stand p l e R s m args below meth c T locs cells slots) (hx : p.tables.exec = Jvm.exec) (hZ : Z.Warmed39 s.vm) (eT : T.heap = h) (A : Arv Z h a k ty z vs d) (hg : g.method = m) (hs : g.stack = .ref a :: rest) (hd : decode c.code g.pc = .ok (.arraylength, 1)) :
    ∀ target, Steps p.tables e below (T.setTop { g with pc := g.pc + 1, stack := .int z :: rest }) target → Steps p.tables e below (T.setTop g) target := fun t ht => by
  obtain ⟨cl, A1, A2, A3, A4, A5, A6⟩ := A
  refine X.arraylength hx (by rw [eT]; exact A1.1) (State.isArrayOf_alike hZ.alike A1.2.1) hg hs hd t ?_
  rw [len_of A3 A4]; exact ht
end Arrays
end Jvm.OwnKit

namespace Jvm.OwnKit
open Jvm Jvm.ClassFile Sem Op Lib Jvm.Free Jvm.Stand Jvm.LawKit Jvm.RoadKit Bundle
section Steps1
variable {p : Program} {l : Launch} {e : Env} {R : Room} {s : State} {m : MethodId} {args : Array Value} {below : List Frame} {meth : Method} {c : Code} {T : State} {locs : List Loc} {cells slots : Nat} {Z : State} {a0 : Array Value} {EL : List (String × Nat)} {h : Heap} {Q : Outcome → State → Prop} {pc q : Nat} {Ls Ls' : Array Slot} {st : List Value} {x y z : Int32} {jx jy jz : Int64} {a : Addr} {v w : Value} {k : Nat} {k4 : Fin 4} {i : Nat} {vs : List Value} {d : Value} {ty : FieldType} {kc : ClassId} {own C O f dd : String} {index : Nat}
theorem aL (X : Stand p l e R s m args below meth c T locs cells slots) (hx : p.tables.exec = Jvm.exec) (hd : decode c.code pc = .ok (.aload_n k4, 1)) (hq : pc + 1 = q) (hl : Ls[k4.val]? = some (.val v)) (hv : v.isRef = true) (kk : Go p.tables e below Q (T.setTop (mkF m q Ls (v :: st)))) : Go p.tables e below Q (T.setTop (mkF m pc Ls st)) := by
  subst hq; exact Go.st (XS.aloadN X.here hx rfl hd hl hv) kk
theorem aLw (X : Stand p l e R s m args below meth c T locs cells slots) (hx : p.tables.exec = Jvm.exec) (hd : decode c.code pc = .ok (.aload k, 2)) (hq : pc + 2 = q) (hl : Ls[k]? = some (.val v)) (hv : v.isRef = true) (kk : Go p.tables e below Q (T.setTop (mkF m q Ls (v :: st)))) : Go p.tables e below Q (T.setTop (mkF m pc Ls st)) := by
  subst hq; exact Go.st (XS.aload X.here hx rfl hd hl hv) kk
theorem iL (X : Stand p l e R s m args below meth c T locs cells slots) (hx : p.tables.exec = Jvm.exec) (hd : decode c.code pc = .ok (.iload_n k4, 1)) (hq : pc + 1 = q) (hl : Ls[k4.val]? = some (.val (.int x))) (kk : Go p.tables e below Q (T.setTop (mkF m q Ls (.int x :: st)))) : Go p.tables e below Q (T.setTop (mkF m pc Ls st)) := by
  subst hq; exact Go.st (XS.iloadN X.here hx rfl hd hl) kk
theorem iLw (X : Stand p l e R s m args below meth c T locs cells slots) (hx : p.tables.exec = Jvm.exec) (hd : decode c.code pc = .ok (.iload k, 2)) (hq : pc + 2 = q) (hl : Ls[k]? = some (.val (.int x))) (kk : Go p.tables e below Q (T.setTop (mkF m q Ls (.int x :: st)))) : Go p.tables e below Q (T.setTop (mkF m pc Ls st)) := by
  subst hq; exact Go.st (XS.iload X.here hx rfl hd hl) kk
theorem sI (X : Stand p l e R s m args below meth c T locs cells slots) (hx : p.tables.exec = Jvm.exec) (hd : decode c.code pc = .ok (.istore_n k4, 1)) (hq : pc + 1 = q) (hl : storeLocals Ls k4.val (.int x) = some Ls') (kk : Go p.tables e below Q (T.setTop (mkF m q Ls' st))) : Go p.tables e below Q (T.setTop (mkF m pc Ls (.int x :: st))) := by
  subst hq; exact Go.st (XS.istoreN X.here hx rfl hd rfl hl) kk
theorem sIw (X : Stand p l e R s m args below meth c T locs cells slots) (hx : p.tables.exec = Jvm.exec) (hd : decode c.code pc = .ok (.istore k, 2)) (hq : pc + 2 = q) (hl : storeLocals Ls k (.int x) = some Ls') (kk : Go p.tables e below Q (T.setTop (mkF m q Ls' st))) : Go p.tables e below Q (T.setTop (mkF m pc Ls (.int x :: st))) := by
  subst hq; exact Go.st (XS.istore X.here hx rfl hd rfl hl) kk
theorem sA (X : Stand p l e R s m args below meth c T locs cells slots) (hx : p.tables.exec = Jvm.exec) (hd : decode c.code pc = .ok (.astore_n k4, 1)) (hq : pc + 1 = q) (hv : v.isRef = true) (hl : storeLocals Ls k4.val v = some Ls') (kk : Go p.tables e below Q (T.setTop (mkF m q Ls' st))) : Go p.tables e below Q (T.setTop (mkF m pc Ls (v :: st))) := by
  subst hq; exact Go.st (XS.astoreN X.here hx rfl hd rfl hv hl) kk
theorem sAw (X : Stand p l e R s m args below meth c T locs cells slots) (hx : p.tables.exec = Jvm.exec) (hd : decode c.code pc = .ok (.astore k, 2)) (hq : pc + 2 = q) (hv : v.isRef = true) (hl : storeLocals Ls k v = some Ls') (kk : Go p.tables e below Q (T.setTop (mkF m q Ls' st))) : Go p.tables e below Q (T.setTop (mkF m pc Ls (v :: st))) := by
  subst hq; exact Go.st (XS.astore X.here hx rfl hd rfl hv hl) kk
theorem cI (X : Stand p l e R s m args below meth c T locs cells slots) (hx : p.tables.exec = Jvm.exec) {j : Int} (hd : decode c.code pc = .ok (.iconst j, 1)) (hq : pc + 1 = q) (hz : Int32.ofInt j = z) (kk : Go p.tables e below Q (T.setTop (mkF m q Ls (.int z :: st)))) : Go p.tables e below Q (T.setTop (mkF m pc Ls st)) := by
  subst hq hz; exact Go.st (XS.iconst X.here hx rfl hd) kk
theorem bI (X : Stand p l e R s m args below meth c T locs cells slots) (hx : p.tables.exec = Jvm.exec) {j : Int} (hd : decode c.code pc = .ok (.bipush j, 2)) (hq : pc + 2 = q) (hz : (Int8.ofInt j).toInt32 = z) (kk : Go p.tables e below Q (T.setTop (mkF m q Ls (.int z :: st)))) : Go p.tables e below Q (T.setTop (mkF m pc Ls st)) := by
  subst hq hz; exact Go.st (XS.bipush X.here hx rfl hd) kk
theorem pI (X : Stand p l e R s m args below meth c T locs cells slots) (hx : p.tables.exec = Jvm.exec) {j : Int} (hd : decode c.code pc = .ok (.sipush j, 3)) (hq : pc + 3 = q) (hz : (Int16.ofInt j).toInt32 = z) (kk : Go p.tables e below Q (T.setTop (mkF m q Ls (.int z :: st)))) : Go p.tables e below Q (T.setTop (mkF m pc Ls st)) := by
  subst hq hz; exact Go.st (XS.sipush X.here hx rfl hd) kk
theorem cN (X : Stand p l e R s m args below meth c T locs cells slots) (hx : p.tables.exec = Jvm.exec) (hd : decode c.code pc = .ok (.aconst_null, 1)) (hq : pc + 1 = q) (kk : Go p.tables e below Q (T.setTop (mkF m q Ls (.null :: st)))) : Go p.tables e below Q (T.setTop (mkF m pc Ls st)) := by
  subst hq; exact Go.st (XS.aconstNull X.here hx rfl hd) kk
theorem g_iadd (X : Stand p l e R s m args below meth c T locs cells slots) (hx : p.tables.exec = Jvm.exec) (hd : decode c.code pc = .ok (.iadd, 1)) (hq : pc + 1 = q) (hz : x + y = z) (kk : Go p.tables e below Q (T.setTop (mkF m q Ls (.int z :: st)))) : Go p.tables e below Q (T.setTop (mkF m pc Ls (.int y :: .int x :: st))) := by
  subst hq hz; exact Go.st (XS.iadd X.here hx rfl hd rfl) kk
theorem g_isub (X : Stand p l e R s m args below meth c T locs cells slots) (hx : p.tables.exec = Jvm.exec) (hd : decode c.code pc = .ok (.isub, 1)) (hq : pc + 1 = q) (hz : x - y = z) (kk : Go p.tables e below Q (T.setTop (mkF m q Ls (.int z :: st)))) : Go p.tables e below Q (T.setTop (mkF m pc Ls (.int y :: .int x :: st))) := by
  subst hq hz; exact Go.st (XS.isub X.here hx rfl hd rfl) kk
theorem g_iand (X : Stand p l e R s m args below meth c T locs cells slots) (hx : p.tables.exec = Jvm.exec) (hd : decode c.code pc = .ok (.iand, 1)) (hq : pc + 1 = q) (hz : x &&& y = z) (kk : Go p.tables e below Q (T.setTop (mkF m q Ls (.int z :: st)))) : Go p.tables e below Q (T.setTop (mkF m pc Ls (.int y :: .int x :: st))) := by
  subst hq hz; exact Go.st (XS.iand X.here hx rfl hd rfl) kk
theorem g_ior (X : Stand p l e R s m args below meth c T locs cells slots) (hx : p.tables.exec = Jvm.exec) (hd : decode c.code pc = .ok (.ior, 1)) (hq : pc + 1 = q) (hz : x ||| y = z) (kk : Go p.tables e below Q (T.setTop (mkF m q Ls (.int z :: st)))) : Go p.tables e below Q (T.setTop (mkF m pc Ls (.int y :: .int x :: st))) := by
  subst hq hz; exact Go.st (XS.ior X.here hx rfl hd rfl) kk
theorem g_ishr (X : Stand p l e R s m args below meth c T locs cells slots) (hx : p.tables.exec = Jvm.exec) (hd : decode c.code pc = .ok (.ishr, 1)) (hq : pc + 1 = q) (hz : x >>> (y &&& 31) = z) (kk : Go p.tables e below Q (T.setTop (mkF m q Ls (.int z :: st)))) : Go p.tables e below Q (T.setTop (mkF m pc Ls (.int y :: .int x :: st))) := by
  subst hq hz; exact Go.st (XS.ishr X.here hx rfl hd rfl) kk
theorem g_iushr (X : Stand p l e R s m args below meth c T locs cells slots) (hx : p.tables.exec = Jvm.exec) (hd : decode c.code pc = .ok (.iushr, 1)) (hq : pc + 1 = q) (hz : (x.toUInt32 >>> (y &&& 31).toUInt32).toInt32 = z) (kk : Go p.tables e below Q (T.setTop (mkF m q Ls (.int z :: st)))) : Go p.tables e below Q (T.setTop (mkF m pc Ls (.int y :: .int x :: st))) := by
  subst hq hz; exact Go.st (XS.iushr X.here hx rfl hd rfl) kk
theorem g_irem (X : Stand p l e R s m args below meth c T locs cells slots) (hx : p.tables.exec = Jvm.exec) (hd : decode c.code pc = .ok (.irem, 1)) (hq : pc + 1 = q) (hy : y ≠ 0) (hz : x % y = z) (kk : Go p.tables e below Q (T.setTop (mkF m q Ls (.int z :: st)))) : Go p.tables e below Q (T.setTop (mkF m pc Ls (.int y :: .int x :: st))) := by
  subst hq hz; exact Go.st (iremM X hx rfl hd rfl hy) kk
theorem g_i2b (X : Stand p l e R s m args below meth c T locs cells slots) (hx : p.tables.exec = Jvm.exec) (hd : decode c.code pc = .ok (.i2b, 1)) (hq : pc + 1 = q) (hz : x.toInt8.toInt32 = z) (kk : Go p.tables e below Q (T.setTop (mkF m q Ls (.int z :: st)))) : Go p.tables e below Q (T.setTop (mkF m pc Ls (.int x :: st))) := by
  subst hq hz; exact Go.st (XS.i2b X.here hx rfl hd rfl) kk
theorem g_i2c (X : Stand p l e R s m args below meth c T locs cells slots) (hx : p.tables.exec = Jvm.exec) (hd : decode c.code pc = .ok (.i2c, 1)) (hq : pc + 1 = q) (hz : x.toUInt32.toUInt16.toUInt32.toInt32 = z) (kk : Go p.tables e below Q (T.setTop (mkF m q Ls (.int z :: st)))) : Go p.tables e below Q (T.setTop (mkF m pc Ls (.int x :: st))) := by
  subst hq hz; exact Go.st (XS.i2c X.here hx rfl hd rfl) kk
theorem g_iinc (X : Stand p l e R s m args below meth c T locs cells slots) (hx : p.tables.exec = Jvm.exec) {j : Int} (hd : decode c.code pc = .ok (.iinc k j, 3)) (hq : pc + 3 = q) (hl : Ls[k]? = some (.val (.int x))) (hz : x + Int32.ofInt j = z) (hl2 : storeLocals Ls k (.int z) = some Ls') (kk : Go p.tables e below Q (T.setTop (mkF m q Ls' st))) : Go p.tables e below Q (T.setTop (mkF m pc Ls st)) := by
  subst hq hz; exact Go.st (XS.iinc X.here hx rfl hd hl hl2) kk
theorem g_dup (X : Stand p l e R s m args below meth c T locs cells slots) (hx : p.tables.exec = Jvm.exec) (hd : decode c.code pc = .ok (.dup, 1)) (hq : pc + 1 = q) (hc : v.category = 1) (kk : Go p.tables e below Q (T.setTop (mkF m q Ls (v :: v :: st)))) : Go p.tables e below Q (T.setTop (mkF m pc Ls (v :: st))) := by
  subst hq; exact Go.st (XS.dup X.here hx rfl hd rfl hc) kk
theorem g_pop (X : Stand p l e R s m args below meth c T locs cells slots) (hx : p.tables.exec = Jvm.exec) (hd : decode c.code pc = .ok (.pop, 1)) (hq : pc + 1 = q) (hc : v.category = 1) (kk : Go p.tables e below Q (T.setTop (mkF m q Ls st))) : Go p.tables e below Q (T.setTop (mkF m pc Ls (v :: st))) := by
  subst hq; exact Go.st (XS.pop X.here hx rfl hd rfl hc) kk
theorem g_goto (X : Stand p l e R s m args below meth c T locs cells slots) (hx : p.tables.exec = Jvm.exec) {j : Int} (hd : decode c.code pc = .ok (.goto j, 3)) (ho : 0 ≤ (pc : Int) + j) (hp : ((pc : Int) + j).toNat = q) (kk : Go p.tables e below Q (T.setTop (mkF m q Ls st))) : Go p.tables e below Q (T.setTop (mkF m pc Ls st)) := by
  exact Go.st (XS.goto X.here hx rfl rfl hd ho hp) kk
theorem ifY (X : Stand p l e R s m args below meth c T locs cells slots) (hx : p.tables.exec = Jvm.exec) {j : Int} {cd : ClassFile.Cond} (hd : decode c.code pc = .ok (.ifCond cd j, 3)) (ho : 0 ≤ (pc : Int) + j) (hp : ((pc : Int) + j).toNat = q) (hc : ifCond.holds cd x = true) (kk : Go p.tables e below Q (T.setTop (mkF m q Ls st))) : Go p.tables e below Q (T.setTop (mkF m pc Ls (.int x :: st))) := by
  exact Go.st (XS.ifYes X.here hx rfl rfl hd rfl hc ho hp) kk
theorem ifN (X : Stand p l e R s m args below meth c T locs cells slots) (hx : p.tables.exec = Jvm.exec) {j : Int} {cd : ClassFile.Cond} (hd : decode c.code pc = .ok (.ifCond cd j, 3)) (hq : pc + 3 = q) (hc : ifCond.holds cd x = false) (kk : Go p.tables e below Q (T.setTop (mkF m q Ls st))) : Go p.tables e below Q (T.setTop (mkF m pc Ls (.int x :: st))) := by
  subst hq; exact Go.st (XS.ifNo X.here hx rfl hd rfl hc) kk
theorem icY (X : Stand p l e R s m args below meth c T locs cells slots) (hx : p.tables.exec = Jvm.exec) {j : Int} {cd : ClassFile.Cond} (hd : decode c.code pc = .ok (.if_icmp cd j, 3)) (ho : 0 ≤ (pc : Int) + j) (hp : ((pc : Int) + j).toNat = q) (hc : if_icmp.holds cd x y = true) (kk : Go p.tables e below Q (T.setTop (mkF m q Ls st))) : Go p.tables e below Q (T.setTop (mkF m pc Ls (.int y :: .int x :: st))) := by
  exact Go.st (XS.icmpYes X.here hx rfl rfl hd rfl hc ho hp) kk
theorem icN (X : Stand p l e R s m args below meth c T locs cells slots) (hx : p.tables.exec = Jvm.exec) {j : Int} {cd : ClassFile.Cond} (hd : decode c.code pc = .ok (.if_icmp cd j, 3)) (hq : pc + 3 = q) (hc : if_icmp.holds cd x y = false) (kk : Go p.tables e below Q (T.setTop (mkF m q Ls st))) : Go p.tables e below Q (T.setTop (mkF m pc Ls (.int y :: .int x :: st))) := by
  subst hq; exact Go.st (XS.icmpNo X.here hx rfl hd rfl hc) kk
theorem nnY (X : Stand p l e R s m args below meth c T locs cells slots) (hx : p.tables.exec = Jvm.exec) {j : Int} (hd : decode c.code pc = .ok (.ifnonnull j, 3)) (ho : 0 ≤ (pc : Int) + j) (hp : ((pc : Int) + j).toNat = q) (kk : Go p.tables e below Q (T.setTop (mkF m q Ls st))) : Go p.tables e below Q (T.setTop (mkF m pc Ls (.ref a :: st))) := by
  exact Go.st (XS.ifnonnullYes X.here hx rfl rfl hd rfl ho hp) kk
theorem nnN (X : Stand p l e R s m args below meth c T locs cells slots) (hx : p.tables.exec = Jvm.exec) {j : Int} (hd : decode c.code pc = .ok (.ifnonnull j, 3)) (hq : pc + 3 = q) (kk : Go p.tables e below Q (T.setTop (mkF m q Ls st))) : Go p.tables e below Q (T.setTop (mkF m pc Ls (.null :: st))) := by
  subst hq; exact Go.st (XS.ifnonnullNo X.here hx rfl hd rfl) kk
theorem g_acmp (X : Stand p l e R s m args below meth c T locs cells slots) (hx : p.tables.exec = Jvm.exec) {j : Int} {cd : ACond} (hd : decode c.code pc = .ok (.if_acmp cd j, 3)) (h1 : v.isRef = true) (h2 : w.isRef = true) {same : Bool} (hs : decide (v = w) = same) (ho : 0 ≤ (pc : Int) + j) (hp : q = if acV cd same = true then ((pc : Int) + j).toNat else pc + 3) (kk : Go p.tables e below Q (T.setTop (mkF m q Ls st))) : Go p.tables e below Q (T.setTop (mkF m pc Ls (w :: v :: st))) := by
  exact Go.st (acmp X hx rfl h1 h2 rfl hd rfl hs ho hp) kk
theorem g_new (X : Stand p l e R s m args below meth c T locs cells slots) (hx : p.tables.exec = Jvm.exec) (hZ : Z.Warmed39 s.vm) (hown : s.vm.findClass own = some m.cls) (w1 : (Jvm.Cond.classLink own index C).before a0 Z = true) (w2 : (Jvm.Cond.instantiable C k).before a0 Z = true) (w3 : (Jvm.Cond.initialized C).before a0 Z = true) (hc : cells + 1 ≤ R.cells) (hl : slots + k ≤ R.slots) (eT : T.heap = h) (hd : decode c.code pc = .ok (.new index, 3)) (hq : pc + 3 = q) (kk : ∀ (T' : State) (h' : Heap) (b : Addr), b = h.size → Stand p l e R s m args below meth c T' locs (cells + 1) (slots + k) → T'.heap = h' → Ext h h' → Exa Z h' b C → (∀ {O nm d : String} {ty : FieldType}, Laid Z a0 C O nm d → parseFieldDescriptor d = some ty → Fld Z h' b O nm d (defaultValue ty)) → Go p.tables e below Q (T'.setTop (mkF m q Ls (.ref b :: st)))) : Go p.tables e below Q (T.setTop (mkF m pc Ls st)) := by
  subst hq
  obtain ⟨T', h', X', e', E', A', D', -, st'⟩ := newO X hx hZ hown w1 w2 w3 eT (g := mkF m pc Ls st) rfl hd hc hl
  exact Go.to st' (kk T' h' _ rfl X' e' E' A' D')
theorem g_newA (X : Stand p l e R s m args below meth c T locs cells slots) (hx : p.tables.exec = Jvm.exec) (hZ : Z.Warmed39 s.vm) {aty : ArrayType} (w1 : (Jvm.Cond.arrayClass (newarray.typeOf aty)).before a0 Z = true) (hn : ¬ z < 0) {n : Nat} (hk : z.toNatClampNeg = n) (hb : n * 8 ≤ 536870912) (hc : cells + 1 ≤ R.cells) (hl : slots + n ≤ R.slots) (eT : T.heap = h) (hd : decode c.code pc = .ok (.newarray aty, 2)) (hq : pc + 2 = q) (kk : ∀ (T' : State) (h' : Heap) (kc : ClassId) (b : Addr), b = h.size → Stand p l e R s m args below meth c T' locs (cells + 1) (slots + n) → T'.heap = h' → Ext h h' → Arv Z h' b kc (newarray.typeOf aty) z (List.replicate n (defaultValue (newarray.typeOf aty))) (defaultValue (newarray.typeOf aty)) → Go p.tables e below Q (T'.setTop (mkF m q Ls (.ref b :: st)))) : Go p.tables e below Q (T.setTop (mkF m pc Ls (.int z :: st))) := by
  subst hq
  obtain ⟨T', h', kc, X', e', E', V', st'⟩ := newArr X hx hZ w1 eT (g := mkF m pc Ls (.int z :: st)) rfl hd rfl hn hk hb hc hl
  exact Go.to st' (kk T' h' kc _ rfl X' e' E' V')
theorem g_stC (X : Stand p l e R s m args below meth c T locs cells slots) (hx : p.tables.exec = Jvm.exec) (hZ : Z.Warmed39 s.vm) (A : Arv Z h a kc .char z vs d) {j : Int32} (hj : j.toNatClampNeg = i) (h0 : ¬ j < 0) (hjz : j < z) (hi : i < vs.length) (hn : nar .char x = y) (eT : T.heap = h) (hd : decode c.code pc = .ok (.castore, 1)) (hq : pc + 1 = q) (kk : ∀ (T' : State) (h' : Heap), Stand p l e R s m args below meth c T' (locs ++ [⟨a, i⟩]) cells slots → T'.heap = h' → Wr h h' a i (.int y) → Arv Z h' a kc .char z (vs.set i (.int y)) d → Go p.tables e below Q (T'.setTop (mkF m q Ls st))) : Go p.tables e below Q (T.setTop (mkF m pc Ls (.int x :: .int j :: .ref a :: st))) := by
  subst hq
  obtain ⟨T', h', X', e', W', V', st'⟩ := setC X hx hZ eT A hj h0 hjz hi hn (g := mkF m pc Ls (.int x :: .int j :: .ref a :: st)) rfl rfl hd
  exact Go.to st' (kk T' h' X' e' W' V')
theorem g_stB (X : Stand p l e R s m args below meth c T locs cells slots) (hx : p.tables.exec = Jvm.exec) (hZ : Z.Warmed39 s.vm) (A : Arv Z h a kc .byte z vs d) {j : Int32} (hj : j.toNatClampNeg = i) (h0 : ¬ j < 0) (hjz : j < z) (hi : i < vs.length) (hn : nar .byte x = y) (eT : T.heap = h) (hd : decode c.code pc = .ok (.bastore, 1)) (hq : pc + 1 = q) (kk : ∀ (T' : State) (h' : Heap), Stand p l e R s m args below meth c T' (locs ++ [⟨a, i⟩]) cells slots → T'.heap = h' → Wr h h' a i (.int y) → Arv Z h' a kc .byte z (vs.set i (.int y)) d → Go p.tables e below Q (T'.setTop (mkF m q Ls st))) : Go p.tables e below Q (T.setTop (mkF m pc Ls (.int x :: .int j :: .ref a :: st))) := by
  subst hq
  obtain ⟨T', h', X', e', W', V', st'⟩ := setB X hx hZ eT A hj h0 hjz hi hn (g := mkF m pc Ls (.int x :: .int j :: .ref a :: st)) rfl rfl hd
  exact Go.to st' (kk T' h' X' e' W' V')
theorem g_ldC (X : Stand p l e R s m args below meth c T locs cells slots) (hx : p.tables.exec = Jvm.exec) (hZ : Z.Warmed39 s.vm) (A : Arv Z h a kc .char z vs d) {j : Int32} (hj : j.toNatClampNeg = i) (h0 : ¬ j < 0) (hjz : j < z) (hv : vs.getD i d = v) (eT : T.heap = h) (hd : decode c.code pc = .ok (.caload, 1)) (hq : pc + 1 = q) (kk : Go p.tables e below Q (T.setTop (mkF m q Ls (v :: st)))) : Go p.tables e below Q (T.setTop (mkF m pc Ls (.int j :: .ref a :: st))) := by
  subst hq
  exact Go.to (ldC X hx hZ eT A hj h0 hjz hv (g := mkF m pc Ls (.int j :: .ref a :: st)) rfl rfl hd) kk
theorem g_ldB (X : Stand p l e R s m args below meth c T locs cells slots) (hx : p.tables.exec = Jvm.exec) (hZ : Z.Warmed39 s.vm) (A : Arv Z h a kc .byte z vs d) {j : Int32} (hj : j.toNatClampNeg = i) (h0 : ¬ j < 0) (hjz : j < z) (hv : vs.getD i d = v) (eT : T.heap = h) (hd : decode c.code pc = .ok (.baload, 1)) (hq : pc + 1 = q) (kk : Go p.tables e below Q (T.setTop (mkF m q Ls (v :: st)))) : Go p.tables e below Q (T.setTop (mkF m pc Ls (.int j :: .ref a :: st))) := by
  subst hq
  exact Go.to (ldB X hx hZ eT A hj h0 hjz hv (g := mkF m pc Ls (.int j :: .ref a :: st)) rfl rfl hd) kk
theorem g_len (X : Stand p l e R s m args below meth c T locs cells slots) (hx : p.tables.exec = Jvm.exec) (hZ : Z.Warmed39 s.vm) (A : Arv Z h a kc ty z vs d) (eT : T.heap = h) (hd : decode c.code pc = .ok (.arraylength, 1)) (hq : pc + 1 = q) (kk : Go p.tables e below Q (T.setTop (mkF m q Ls (.int z :: st)))) : Go p.tables e below Q (T.setTop (mkF m pc Ls (.ref a :: st))) := by
  subst hq
  exact Go.to (alen X hx hZ eT A (g := mkF m pc Ls (.ref a :: st)) rfl rfl hd) kk
theorem g_getF (X : Stand p l e R s m args below meth c T locs cells slots) (hx : p.tables.exec = Jvm.exec) (hZ : Z.Warmed39 s.vm) (hown : s.vm.findClass own = some m.cls) {R0 host : String} (wl : (Jvm.Cond.fieldLink own index R0 f dd).before a0 Z = true ∨ (Jvm.Cond.fieldLinkNest own index R0 f dd host).before a0 Z = true) (via : Via Z R0 O f dd) (F : Fld Z h a O f dd v) (eT : T.heap = h) (hd : decode c.code pc = .ok (.getfield index, 3)) (hq : pc + 3 = q) (kk : ∀ (T' : State), Stand p l e R s m args below meth c T' locs cells slots → T'.heap = h → Go p.tables e below Q (T'.setTop (mkF m q Ls (v :: st)))) : Go p.tables e below Q (T.setTop (mkF m pc Ls (.ref a :: st))) := by
  subst hq
  obtain ⟨T', X', e', st'⟩ := getF X hx hZ hown wl via eT F (g := mkF m pc Ls (.ref a :: st)) rfl rfl hd
  exact Go.to st' (kk T' X' e')
theorem g_putF (X : Stand p l e R s m args below meth c T locs cells slots) (hx : p.tables.exec = Jvm.exec) (hZ : Z.Warmed39 s.vm) (hown : s.vm.findClass own = some m.cls) {R0 host : String} {kk2 : Nat} (wl : (Jvm.Cond.fieldLink own index R0 f dd).before a0 Z = true ∨ (Jvm.Cond.fieldLinkNest own index R0 f dd host).before a0 Z = true) (via : Via Z R0 O f dd) {old : Value} (F : Fld Z h a O f dd old) (E : Exa Z h a C) (L : (Jvm.Cond.lays C O f dd).before a0 Z = true ∨ ((Jvm.Cond.laysFinal C O f dd).before a0 Z = true ∧ own = O ∧ meth.name = "<init>")) (wi : (Jvm.Cond.instantiable C kk2).before a0 Z = true) (hty : parseFieldDescriptor dd = some ty) (hn : narrow ty v = v) (hf : fits ty v = true) (eT : T.heap = h) (hd : decode c.code pc = .ok (.putfield index, 3)) (hq : pc + 3 = q) (kk : ∀ (T' : State) (h' : Heap), Stand p l e R s m args below meth c T' (locs ++ [⟨a, Jvm.RoadKit.slotOf Z O f dd⟩]) cells slots → T'.heap = h' → Wr h h' a (Jvm.RoadKit.slotOf Z O f dd) v → Go p.tables e below Q (T'.setTop (mkF m q Ls st))) : Go p.tables e below Q (T.setTop (mkF m pc Ls (v :: .ref a :: st))) := by
  subst hq
  obtain ⟨T', h', X', e', W', st'⟩ := putF X hx hZ hown wl via eT F E L wi hty hn hf (g := mkF m pc Ls (v :: .ref a :: st)) rfl rfl hd
  exact Go.to st' (kk T' h' X' e' W')
theorem g_getS (X : Stand p l e R s m args below meth c T locs cells slots) (hx : p.tables.exec = Jvm.exec) (hZ : Z.Warmed39 s.vm) (hown : s.vm.findClass own = some m.cls) {R0 host : String} (wl : (Jvm.Cond.fieldLink own index R0 f dd).before a0 Z = true ∨ (Jvm.Cond.fieldLinkNest own index R0 f dd host).before a0 Z = true) (via : Via Z R0 O f dd) (F : Sta Z h O f dd v) (eT : T.heap = h) (hd : decode c.code pc = .ok (.getstatic index, 3)) (hq : pc + 3 = q) (kk : ∀ (T' : State), Stand p l e R s m args below meth c T' locs cells slots → T'.heap = h → Go p.tables e below Q (T'.setTop (mkF m q Ls (v :: st)))) : Go p.tables e below Q (T.setTop (mkF m pc Ls st)) := by
  subst hq
  obtain ⟨T', X', e', st'⟩ := getS2 X hx hZ hown wl via eT F (g := mkF m pc Ls st) rfl hd
  exact Go.to st' (kk T' X' e')
theorem g_init0 (X : Stand p l e R s m args below meth c T locs cells slots) (hx : p.tables.exec = Jvm.exec) (hZ : Z.Warmed39 s.vm) (hown : s.vm.findClass own = some m.cls) (w1 : (Jvm.Cond.methodLink own index Lib.objectInit).before a0 Z = true) (w2 : (Jvm.Cond.instanceMethod Lib.objectInit).before a0 Z = true) (w3 : (Jvm.Cond.code Lib.objectInit ⟨#[0xb1]⟩ 1 none).before a0 Z = true) (hsize : Ls.size = c.maxLocals) (hf : 1 ≤ R.frames) {W : Nat} (hW : (st.map fun v => v.category).sum ≤ W) (hl : W + 12 ≤ R.locals) (eT : T.heap = h) (hd : decode c.code pc = .ok (.invokespecial index, 3)) (hq : pc + 3 = q) (kk : ∀ (T' : State), Stand p l e R s m args below meth c T' locs cells slots → T'.heap = h → Go p.tables e below Q (T'.setTop (mkF m q Ls st))) : Go p.tables e below Q (T.setTop (mkF m pc Ls (.ref a :: st))) := by
  subst hq
  obtain ⟨T', X', e', st'⟩ := initO X hx hZ hown w1 w2 w3 eT (g := mkF m pc Ls (.ref a :: st)) rfl hsize rfl hd hf (W := W) (by show 2 * 0 + _ ≤ _; omega) hl
  exact Go.to st' (kk T' X' e')
theorem g_ldc {vm0 : Vm} (X : Stand p l e R (s.setVm vm0) m args below meth c T locs cells slots) (hx : p.tables.exec = Jvm.exec) (hZ : Z.Warmed39 vm0) (hown : vm0.findClass own = some m.cls) {text : String} (w : (Jvm.Cond.stringLink own index text).before a0 Z = true) (wS : ∀ a ∈ Bundle.stringAtoms, a.before a0 Z = true) {k0 : Nat} (hS : s.Since vm0 k0) (hk : k0 ≤ h.size) (hEL : EW Z a0 EL) (hmem : (own, index) ∈ EL) (H : CHv Z EL vm0 h) (ht : (∀ c ∈ text.toList, c.toNat < 256) ∧ text.toList.map (fun c => Value.int (Jvm.Lit.byteI c.toNat.toUInt16)) = vs) (hz : ¬ z < 0) (hl : z.toNatClampNeg = vs.length) {n : Nat} (hn : 4 * text.toList.length ≤ n) (hbig : n ≤ 536870912) (hc : cells + 2 ≤ R.cells) (hl' : slots + (n + 4) ≤ R.slots) (eT : T.heap = h) (hd : decode c.code pc = .ok (.ldc index, 2)) (hq : pc + 2 = q) (kk : ∀ (a : Addr) (T' : State) (h' : Heap) (k1 : Nat) (b : Addr) (k : ClassId), Stand p l e R (s.setVm T'.vm) m args below meth c T' locs (cells + 2) (slots + (n + 4)) → T'.heap = h' → Ext h h' → s.Since T'.vm k1 → k1 ≤ h'.size → Z.Warmed39 T'.vm → T'.vm.findClass own = some m.cls → Exa Z h' a "java/lang/String" → Fld Z h' a "java/lang/String" "coder" "B" (.int 0) → Fld Z h' a "java/lang/String" "value" "[B" (.ref b) → Arv Z h' b k .byte z vs (.int 0) → a < h'.size → b < h'.size → CHr Z EL vm0 h T'.vm h' → (∀ x, Safe Z EL T'.vm h' x → x ≠ a ∧ x ≠ b) → Go p.tables e below Q (T'.setTop (mkF m q Ls (.ref a :: st)))) : Go p.tables e below Q (T.setTop (mkF m pc Ls st)) := by
  subst hq
  obtain ⟨a, T', h', k1, b, k, X', e', E', S', hk', hZ', ho', A', F1, F2, V', l1, l2, R', -, sn, st'⟩ := ldcCH X hx hZ hown w wS eT hS hk hEL hmem H ht hz hl (g := mkF m pc Ls st) rfl hd hn hbig hc hl'
  exact Go.to st' (kk a T' h' k1 b k X' e' E' S' hk' hZ' ho' A' F1 F2 V' l1 l2 R' sn)
theorem g_sp {y : MethodName} {bytes : ByteArray} {maxL : Nat} {W nk ns : Nat} {argsL st0 : List Value} {Qc : Option Value → Heap → List Loc → Prop} (X : Stand p l e R s m args below meth c T locs cells slots) (hx : p.tables.exec = Jvm.exec) (hZ : Z.Warmed39 s.vm) (hown : s.vm.findClass own = some m.cls) (w1 : (Jvm.Cond.methodLink own index y).before a0 Z = true) (w2 : (Jvm.Cond.instanceMethod y).before a0 Z = true) (w3 : (Jvm.Cond.code y bytes maxL none).before a0 Z = true) (hy1 : y.name = "<init>") (hyc : y.cls ≠ "java/lang/invoke/MethodHandle" ∧ y.cls ≠ "java/lang/invoke/VarHandle") (eT : T.heap = h) (hK : BackQ l R p e below s args y 3 W ((.ref a :: argsL).toArray) h nk ns Qc) (hsize : Ls.size = c.maxLocals) (hlen : ∀ sig, parseMethodDescriptor y.desc = some sig → argsL.length = sig.parameters.length) (hst : st0 = argsL.reverse ++ .ref a :: st) (hW : (st.map fun v => v.category).sum ≤ W) (hd : decode c.code pc = .ok (.invokespecial index, 3)) (hq : pc + 3 = q) (hc : cells + nk ≤ R.cells) (hs : slots + ns ≤ R.slots) (kk : ∀ (v : Option Value) (T' : State) (L : List Loc), Stand p l e R s m args below meth c T' (locs ++ L) (cells + nk) (slots + ns) → Qc v T'.heap L → Go p.tables e below Q (T'.setTop (mkF m q Ls (v.toList ++ st)))) : Go p.tables e below Q (T.setTop (mkF m pc Ls st0)) := by
  subst hq
  obtain ⟨v, T', L, X', hQ, st'⟩ := callSp X hx hZ hown hy1 w1 w2 w3 hyc eT hK (g := mkF m pc Ls st0) rfl hsize hlen hst (by show 2 * 0 + _ ≤ _; omega) hd hc hs
  exact Go.run st' (kk v T' L X' hQ)
theorem g_st {y : MethodName} {bytes : ByteArray} {maxL : Nat} {ret : Option FieldType} {W nk ns : Nat} {argsL st0 : List Value} {Qc : Option Value → Heap → List Loc → Prop} (X : Stand p l e R s m args below meth c T locs cells slots) (hx : p.tables.exec = Jvm.exec) (hZ : Z.Warmed39 s.vm) (hown : s.vm.findClass own = some m.cls) (w1 : (Jvm.Cond.methodLink own index y).before a0 Z = true) (w2 : (Jvm.Cond.static y).before a0 Z = true) (w3 : (Jvm.Cond.initialized y.cls).before a0 Z = true) (w4 : (Jvm.Cond.code y bytes maxL ret).before a0 Z = true) (hyc : y.cls ≠ "java/lang/invoke/MethodHandle" ∧ y.cls ≠ "java/lang/invoke/VarHandle") (eT : T.heap = h) (hK : BackQ l R p e below s args y 3 W (argsL.toArray) h nk ns Qc) (hsize : Ls.size = c.maxLocals) (hlen : ∀ sig, parseMethodDescriptor y.desc = some sig → argsL.length = sig.parameters.length) (hst : st0 = argsL.reverse ++ st) (hW : (st.map fun v => v.category).sum ≤ W) (hd : decode c.code pc = .ok (.invokestatic index, 3)) (hq : pc + 3 = q) (hc : cells + nk ≤ R.cells) (hs : slots + ns ≤ R.slots) (kk : ∀ (v : Option Value) (T' : State) (L : List Loc), Stand p l e R s m args below meth c T' (locs ++ L) (cells + nk) (slots + ns) → Qc v T'.heap L → Go p.tables e below Q (T'.setTop (mkF m q Ls (v.toList ++ st)))) : Go p.tables e below Q (T.setTop (mkF m pc Ls st0)) := by
  subst hq
  obtain ⟨v, T', L, X', hQ, st'⟩ := callSt X hx hZ hown w1 w2 w3 w4 hyc eT hK (g := mkF m pc Ls st0) rfl hsize hlen hst (by show 2 * 0 + _ ≤ _; omega) hd hc hs
  exact Go.run st' (kk v T' L X' hQ)
theorem g_vi {y z : MethodName} {W nk ns : Nat} {argsL st0 : List Value} {Qc : Option Value → Heap → List Loc → Prop} (X : Stand p l e R s m args below meth c T locs cells slots) (hx : p.tables.exec = Jvm.exec) (hZ : Z.Warmed39 s.vm) (hown : s.vm.findClass own = some m.cls) (w1 : (Jvm.Cond.methodLink own index y).before a0 Z = true) (w2 : (Jvm.Cond.declares y).before a0 Z = true) (nf : NotFace s y) (w4 : (Jvm.Cond.selects C y z).before a0 Z = true) (w5 : (Jvm.Cond.instanceMethod z).before a0 Z = true) (hyc : y.cls ≠ "java/lang/invoke/MethodHandle" ∧ y.cls ≠ "java/lang/invoke/VarHandle") (E : Exa Z h a C) (eT : T.heap = h) (hK : BackQ l R p e below s args z 3 W ((.ref a :: argsL).toArray) h nk ns Qc) (hsize : Ls.size = c.maxLocals) (hlen : ∀ sig, parseMethodDescriptor y.desc = some sig → argsL.length = sig.parameters.length) (hst : st0 = argsL.reverse ++ .ref a :: st) (hW : (st.map fun v => v.category).sum ≤ W) (hd : decode c.code pc = .ok (.invokevirtual index, 3)) (hq : pc + 3 = q) (hc : cells + nk ≤ R.cells) (hs : slots + ns ≤ R.slots) (kk : ∀ (v : Option Value) (T' : State) (L : List Loc), Stand p l e R s m args below meth c T' (locs ++ L) (cells + nk) (slots + ns) → Qc v T'.heap L → Go p.tables e below Q (T'.setTop (mkF m q Ls (v.toList ++ st)))) : Go p.tables e below Q (T.setTop (mkF m pc Ls st0)) := by
  subst hq
  obtain ⟨v, T', L, X', hQ, st'⟩ := callVi X hx hZ hown w1 w2 nf w4 w5 hyc eT E hK (g := mkF m pc Ls st0) rfl hsize hlen hst (by show 2 * 0 + _ ≤ _; omega) hd hc hs
  exact Go.run st' (kk v T' L X' hQ)
theorem g_stS {vm0 : Vm} {y : MethodName} {bytes : ByteArray} {maxL : Nat} {ret : Option FieldType} {W nk ns : Nat} {argsL st0 : List Value} {Qc : Option Value → Heap → List Loc → Prop} (X : Stand p l e R (s.setVm vm0) m args below meth c T locs cells slots) (hx : p.tables.exec = Jvm.exec) (hZ : Z.Warmed39 vm0) (hown : vm0.findClass own = some m.cls) {n0 : Nat} (hS : s.Since vm0 n0) (hk : n0 ≤ h.size) (w1 : (Jvm.Cond.methodLink own index y).before a0 Z = true) (w2 : (Jvm.Cond.static y).before a0 Z = true) (w3 : (Jvm.Cond.initialized y.cls).before a0 Z = true) (w4 : (Jvm.Cond.code y bytes maxL ret).before a0 Z = true) (hyc : y.cls ≠ "java/lang/invoke/MethodHandle" ∧ y.cls ≠ "java/lang/invoke/VarHandle") (eT : T.heap = h) (hK : BackSQ l R p e below s vm0 args y 3 W (argsL.toArray) h nk ns Z EL Qc) (hsize : Ls.size = c.maxLocals) (hlen : ∀ sig, parseMethodDescriptor y.desc = some sig → argsL.length = sig.parameters.length) (hst : st0 = argsL.reverse ++ st) (hW : (st.map fun v => v.category).sum ≤ W) (hd : decode c.code pc = .ok (.invokestatic index, 3)) (hq : pc + 3 = q) (hc : cells + nk ≤ R.cells) (hs : slots + ns ≤ R.slots) (kk : ∀ (v : Option Value) (T' : State) (L : List Loc), AfterS p l e R s m args below meth c Z EL own vm0 h T' (locs ++ L) (cells + nk) (slots + ns) → Qc v T'.heap L → Go p.tables e below Q (T'.setTop (mkF m q Ls (v.toList ++ st)))) : Go p.tables e below Q (T.setTop (mkF m pc Ls st0)) := by
  subst hq
  obtain ⟨v, T', L, X', hQ, st'⟩ := callStS X hx hZ hown hS hk w1 w2 w3 w4 hyc eT hK (g := mkF m pc Ls st0) rfl hsize hlen hst (by show 2 * 0 + _ ≤ _; omega) hd hc hs
  exact Go.run st' (kk v T' L X' hQ)
theorem g_viS {vm0 : Vm} {y z : MethodName} {W nk ns : Nat} {argsL st0 : List Value} {Qc : Option Value → Heap → List Loc → Prop} (X : Stand p l e R (s.setVm vm0) m args below meth c T locs cells slots) (hx : p.tables.exec = Jvm.exec) (hZ : Z.Warmed39 vm0) (hown : vm0.findClass own = some m.cls) {n0 : Nat} (hS : s.Since vm0 n0) (hk : n0 ≤ h.size) (w1 : (Jvm.Cond.methodLink own index y).before a0 Z = true) (w2 : (Jvm.Cond.declares y).before a0 Z = true) (nf : NotFace (s.setVm vm0) y) (w4 : (Jvm.Cond.selects C y z).before a0 Z = true) (w5 : (Jvm.Cond.instanceMethod z).before a0 Z = true) (hyc : y.cls ≠ "java/lang/invoke/MethodHandle" ∧ y.cls ≠ "java/lang/invoke/VarHandle") (E : Exa Z h a C) (eT : T.heap = h) (hK : BackSQ l R p e below s vm0 args z 3 W ((.ref a :: argsL).toArray) h nk ns Z EL Qc) (hsize : Ls.size = c.maxLocals) (hlen : ∀ sig, parseMethodDescriptor y.desc = some sig → argsL.length = sig.parameters.length) (hst : st0 = argsL.reverse ++ .ref a :: st) (hW : (st.map fun v => v.category).sum ≤ W) (hd : decode c.code pc = .ok (.invokevirtual index, 3)) (hq : pc + 3 = q) (hc : cells + nk ≤ R.cells) (hs : slots + ns ≤ R.slots) (kk : ∀ (v : Option Value) (T' : State) (L : List Loc), AfterS p l e R s m args below meth c Z EL own vm0 h T' (locs ++ L) (cells + nk) (slots + ns) → Qc v T'.heap L → Go p.tables e below Q (T'.setTop (mkF m q Ls (v.toList ++ st)))) : Go p.tables e below Q (T.setTop (mkF m pc Ls st0)) := by
  subst hq
  obtain ⟨v, T', L, X', hQ, st'⟩ := callViS X hx hZ hown hS hk w1 w2 nf w4 w5 hyc eT E hK (g := mkF m pc Ls st0) rfl hsize hlen hst (by show 2 * 0 + _ ≤ _; omega) hd hc hs
  exact Go.run st' (kk v T' L X' hQ)
theorem g_cp (X : Stand p l e R s m args below meth c T locs cells slots) (hx : p.tables.exec = Jvm.exec) (hZ : Z.Warmed39 s.vm) (hown : s.vm.findClass own = some m.cls) (w1 : (Jvm.Cond.methodLink own index Jvm.Stand.acN).before a0 Z = true) (w2 : (Jvm.Cond.native Jvm.Stand.acN).before a0 Z = true) (w3 : (Jvm.Cond.static Jvm.Stand.acN).before a0 Z = true) (w4 : (Jvm.Cond.initialized "java/lang/System").before a0 Z = true) {b : Addr} {k' : ClassId} {ty' : FieldType} {z' sp dp nn : Int32} {vd us : List Value} {d2 : Value} (A : Arv Z h a kc ty z vs d) (B : Arv Z h b k' ty' z' vd d2) (hty : (ty = ty' ∧ refKind ty = false) ∨ (refKind ty = true ∧ refKind ty' = true ∧ StoL Z h b us)) (h1 : ¬ sp < 0) (h2 : ¬ dp < 0) (h3 : ¬ nn < 0) (h4 : sp.toNatClampNeg + nn.toNatClampNeg ≤ z.toNatClampNeg) (h5 : dp.toNatClampNeg + nn.toNatClampNeg ≤ z'.toNatClampNeg) (hus : us = (List.range nn.toNatClampNeg).map fun i => vs.getD (sp.toNatClampNeg + i) d) (hl : dp.toNatClampNeg + nn.toNatClampNeg ≤ vd.length) {n0 : Nat} (N : Fr n0 locs) (ge : n0 ≤ b) (hsize : Ls.size = c.maxLocals) (hf : 1 ≤ R.frames) {W : Nat} (hW : (st.map fun v => v.category).sum ≤ W) (hlo : W + (nativeFrameWords "java/lang/System" "arraycopy" 5 + 11) ≤ R.locals) (eT : T.heap = h) (hd : decode c.code pc = .ok (.invokestatic index, 3)) (hq : pc + 3 = q) (kk : ∀ (T' : State) (h' : Heap) (L : List Loc), Stand p l e R s m args below meth c T' L cells slots → T'.heap = h' → Fr n0 L → Keep h h' [b] → Arv Z h' b k' ty' z' (vd.take dp.toNatClampNeg ++ us ++ vd.drop (dp.toNatClampNeg + nn.toNatClampNeg)) d2 → Go p.tables e below Q (T'.setTop (mkF m q Ls st))) : Go p.tables e below Q (T.setTop (mkF m pc Ls (.int nn :: .int dp :: .ref b :: .int sp :: .ref a :: st))) := by
  subst hq
  obtain ⟨T', h', L, X', e', N', K', V', st'⟩ := cpA X hx hZ hown w1 w2 w3 w4 eT A B hty h1 h2 h3 h4 h5 hus hl N ge (g := mkF m pc Ls (.int nn :: .int dp :: .ref b :: .int sp :: .ref a :: st)) rfl hsize rfl hd hf (W := W) (by show 2 * 0 + _ ≤ _; omega) hlo
  exact Go.to st' (kk T' h' L X' e' N' K' V')
end Steps1
end Jvm.OwnKit

namespace Jvm.OwnKit
open Jvm Jvm.ClassFile Sem Op Lib Jvm.Free Jvm.Stand Jvm.LawKit Jvm.RoadKit Bundle Jvm.Free.Exc
/-- a contract of a method beneath which a stack trace is filled in -/
def ConK (l : Launch) (Z : State) (EL : List (String × Nat)) (y : MethodName) (bytes : ByteArray) (maxL : Nat) (ret : Option FieldType) (rm : Room) (as' : Array Value) (h : Heap) (sl : List Addr) (Qc : Option Value → Heap → List Loc → Prop) : Prop :=
  ∀ ws : List Jvm.Cond, MetFree l y (head1 (Jvm.Cond.code y bytes maxL ret :: ws) rm) (fun a U => a = as' ∧ Z.Warmed39 U.vm ∧ U.heap = h ∧ CHv Z EL U.vm h ∧ ∀ x ∈ sl, Safe Z EL U.vm h x) (fun _ _ bl s _ => s.vm.MethodsKnown ∧ s.vm.FramesKnown bl) (fun _ U o U' => SEnd Z EL U Qc rm.cells rm.slots o U')
theorem ConK.intro {l : Launch} {Z : State} {EL : List (String × Nat)} {y : MethodName} {bytes : ByteArray} {maxL : Nat} {ret : Option FieldType} {rm : Room} {as' : Array Value} {h : Heap} {sl : List Addr} {Qc : Option Value → Heap → List Loc → Prop} (pn : plainFor y = true)
    (body : ∀ (p : Program) (e : Env) (s : State) (m : MethodId) (below : List Frame) (meth : Method) (c : Code) (T : State) (v0 : Vm), Stand p l e rm (s.setVm v0) m as' below meth c T [] 0 0 → p.tables.exec = Jvm.exec → c.code = bytes → c.maxLocals = maxL →
      v0.findClass y.cls = some m.cls → meth.name = y.name → meth.sig.returnType = ret → meth.locks = false → Z.Warmed39 v0 → T.heap = h → s.Since v0 0 → CHr Z EL s.vm s.heap v0 h → (∀ x ∈ sl, Safe Z EL v0 h x) → s.heap = h → v0.MethodsKnown → v0.FramesKnown below →
      Go p.tables e below (SEnd Z EL s Qc rm.cells rm.slots) (T.setTop (entryFrame m as' maxL))) : ConK l Z EL y bytes maxL ret rm as' h sl Qc := by
  intro ws
  refine MetFree.of_bodySF pn hisR ?_
  intro p e s m args below meth c s₁ Bd hml0 hP hK
  obtain ⟨rfl, hZ, hh, hC, hs⟩ := hP
  exact body p e s m below meth c s₁ s.vm (Stand.of_body Bd) Bd.exec Bd.bytes hml0 (findClass_of_methodNamed Bd.named) (name_of_methodNamed Bd.named Bd.method).1 Bd.returns Bd.notSynchronized hZ (by rw [← hh, Bd.state]; rfl) ((State.WarmedH.refl s).since 0) (by rw [hh]; exact CHr.refl hC) hs hh hK.1 hK.2
section
variable {p : Program} {l : Launch} {e : Env} {R : Room} {s : State} {m : MethodId} {args : Array Value} {below : List Frame} {meth : Method} {c : Code} {T : State} {locs : List Loc} {cells slots : Nat} {Z : State} {a0 : Array Value} {EL : List (String × Nat)} {h : Heap} {Qc : Option Value → Heap → List Loc → Prop} {vm0 : Vm} {n0 : Nat}
  {y z : MethodName} {bytes : ByteArray} {maxL : Nat} {ret : Option FieldType} {rm : Room} {as' : Array Value} {own C : String} {index count W k n len : Nat} {g : JFrame} {a : Addr} {argsL rest : List Value}
theorem ConK.back {sl : List Addr} (hM : ConK l Z EL y bytes maxL ret rm as' h sl Qc) (hZ : Z.Warmed39 vm0) (wc : (Jvm.Cond.code y bytes maxL ret).before a0 Z = true) (wz : (Jvm.Cond.initialized y.cls).before a0 Z = true) (hf : rm.frames + 1 ≤ R.frames) (hl : W + (maxL + 11) + rm.locals ≤ R.locals) (hEL : EW Z a0 EL) (H : CHv Z EL vm0 h)
    (hs : ∀ x ∈ sl, Safe Z EL vm0 h x) (hlt : ∀ x ∈ sl, x < h.size) (hTK : vm0.MethodsKnown) (hBelow : vm0.FramesKnown below) : BackSQ l R p e below s vm0 args y len W as' h rm.cells rm.slots Z EL Qc :=
  BackS.of_freeWG (bytes := bytes) (maxL := maxL) (ret := ret) (E := fun _ first o t L k n => k = rm.cells ∧ n = rm.slots ∧ (∃ v, o = .returned v ∧ Qc v t.heap L) ∧ CHr Z EL first.vm first.heap t.vm t.heap) (hM []) hf hl
    (fun m meth c A a Y hp => have hU : Z.Warmed39 A.U.vm := wtrans (s := s.setVm vm0) hZ Y.warmed
      ⟨by show (Cond.and _ .tt).before a A.U = true; rw [Cond.before_and, mv hU wc]; rfl, mv hU wc, mv hU wz, hp.2.2.1, hp.2.2.2⟩)
    (fun m meth c A a g mk Y hp => ⟨hp.1, wtrans (s := s.setVm vm0) hZ Y.warmed, hp.2.1, (CHv.at Y hZ hEL H).1, fun x hx => (CHv.at Y hZ hEL H).safe (hlt x hx) (hs x hx)⟩) (fun m meth c A a g mk Y _ hg => known_frames Y hg hTK hBelow)
    (fun _ _ _ _ ⟨v, L, h1, h2, h3, h4⟩ => ⟨L, _, _, h4, rfl, rfl, ⟨v, h1, h2⟩, h3⟩)
    (fun m meth c A a g mk v t L k n Y hp _ _ ⟨e1, e2, ⟨v', e3, e4⟩, e5⟩ => by
      cases e3; subst e1 e2
      refine ⟨L, e4, rfl, rfl, rfl, (CHv.at Y hZ hEL H).trans ?_⟩
      rw [← hp.2.1]; exact e5)
end
def sub (vs : List Value) (sp n : Nat) (d : Value) : List Value := (List.range n).map fun i => vs.getD (sp + i) d
def ins (vd us : List Value) (p n : Nat) : List Value := vd.take p ++ us ++ vd.drop (p + n)
theorem sub_len {vs : List Value} {sp n : Nat} {d : Value} : (sub vs sp n d).length = n := by simp [sub]
theorem ins_len {vd us : List Value} {p n : Nat} (h : us.length = n) (h2 : p + n ≤ vd.length) : (ins vd us p n).length = vd.length := by
  simp only [ins, List.length_append, List.length_take, List.length_drop, h]
  omega
section
variable {p : Program} {l : Launch} {e : Env} {R : Room} {s : State} {m : MethodId} {args : Array Value} {below : List Frame} {meth : Method} {c : Code} {T : State} {locs : List Loc} {cells slots : Nat} {Z : State} {a0 : Array Value} {h : Heap} {Q : Outcome → State → Prop} {pc q : Nat} {Ls : Array Slot} {st : List Value} {own C : String} {index k : Nat} {a : Addr}
theorem g_newE (X : Stand p l e R s m args below meth c T locs cells slots) (hx : p.tables.exec = Jvm.exec) (hZ : Z.Warmed39 s.vm) {aty : ArrayType} {z : Int32} (w1 : (Jvm.Cond.arrayClass (newarray.typeOf aty)).before a0 Z = true) (hn : ¬ z < 0) {n : Nat} (hk : z.toNatClampNeg = n) (hb : n * 8 ≤ 536870912) (hc : cells + 1 ≤ R.cells) (hl : slots + n ≤ R.slots) {ad : String} (had : "[" ++ (newarray.typeOf aty).toString = ad) (eT : T.heap = h) (hd : decode c.code pc = .ok (.newarray aty, 2)) (hq : pc + 2 = q)
    (kk : ∀ (T' : State) (h' : Heap) (kc : ClassId) (b : Addr), b = h.size → Stand p l e R s m args below meth c T' locs (cells + 1) (slots + n) → T'.heap = h' → Ext h h' → Arv Z h' b kc (newarray.typeOf aty) z (List.replicate n (defaultValue (newarray.typeOf aty))) (defaultValue (newarray.typeOf aty)) → Exa Z h' b ad → Go p.tables e below Q (T'.setTop (mkF m q Ls (.ref b :: st)))) : Go p.tables e below Q (T.setTop (mkF m pc Ls (.int z :: st))) := by
  subst hq
  obtain ⟨T', h', cA, X', e', E', A', G', st'⟩ := newPE X hx hZ w1 eT (g := mkF m pc Ls (.int z :: st)) rfl hd rfl hn (cap := n) (Nat.le_of_eq hk) hb hc hl had
  exact Go.to st' (kk T' h' cA _ rfl X' e' E' ((Arv.new A' hn).pad (fun i => by have := pad_rep [] (defaultValue (newarray.typeOf aty)) n i; simpa using this)) G')
theorem fld_inj {O n d : String} {v w : Value} (F1 : Fld Z h a O n d v) (F2 : Fld Z h a O n d w) : v = w := by
  obtain ⟨c1, _, _, _, f1, a1, b1, _, _, _, _, s1⟩ := F1
  obtain ⟨c2, _, _, _, f2, a2, b2, _, _, _, _, s2⟩ := F2
  cases a1.symm.trans a2
  cases b1.symm.trans b2
  exact Option.some.inj (s1.symm.trans s2)
/-- two Strings whose arrays are not as long are two -/
theorem str_ne {a b t1 t2 : Addr} {O n d : String} {k1 k2 : ClassId} {y1 y2 : FieldType} {z1 z2 : Int32} {v1 v2 : List Value} {d1 d2 : Value} (F1 : Fld Z h a O n d (.ref t1)) (F2 : Fld Z h b O n d (.ref t2)) (A1 : Arv Z h t1 k1 y1 z1 v1 d1) (A2 : Arv Z h t2 k2 y2 z2 v2 d2) (q : z1.toNatClampNeg ≠ z2.toNatClampNeg) : a ≠ b := fun e => by
  subst e; exact arv_ne A1 A2 (Or.inl q) (Value.ref.inj (fld_inj F1 F2))
end
end Jvm.OwnKit

namespace Jvm.OwnKit
open Jvm Jvm.ClassFile Sem Op Lib Jvm.Free Jvm.Stand Jvm.LawKit Jvm.RoadKit Bundle Jvm.Free.Exc
/-- the words that the filling in of a stack trace asks, for an object of the class rc -/
def fillAtoms (rc : String) : List Jvm.Cond := [.instanceMethod tFill, .codeSync tFill LibCode.Throwable.Fill.code 1 (some (.object tN)), .instanceMethod tFill0, .native tFill0, .instanceMethod oInit, .code oInit ⟨#[0xb1]⟩ 1 none,
  .methodLink tN 1 oInit, .methodLink tN 27 tFill, .methodLink tN 202 tFill0, .initialized tN, .superclass tN "java/lang/Object", .fieldLink tN 7 tN "cause" thD, .fieldLink tN 17 tN "stackTrace" steD, .fieldLink tN 24 tN "suppressedExceptions" listD, .fieldLink tN 198 tN "backtrace" obD,
  .fieldLink tN 13 tN "UNASSIGNED_STACK" steD, .laysStatic tN "UNASSIGNED_STACK" steD, .fieldLink tN 20 tN "SUPPRESSED_SENTINEL" listD, .laysStatic tN "SUPPRESSED_SENTINEL" listD,
  .lays rc tN "cause" thD, .lays rc tN "stackTrace" steD, .lays rc tN "suppressedExceptions" listD, .lays rc tN "detailMessage" msgD, .lays rc tN "backtrace" obD, .lays rc tN "depth" "I",
  .arrayOver (.object "java/lang/Object"), .soleField tN "backtrace", .soleField tN "depth", .declares tFill, .selects rc tFill0 tFill0, .selects rc tFill tFill]
/-- what the constructors of Throwable read of its statics -/
def ThSt (Z : State) : Prop := (∃ u : Value, u.isRef = true ∧ Sta Z Z.heap tN "UNASSIGNED_STACK" steD u) ∧ ∃ u : Value, u.isRef = true ∧ Sta Z Z.heap tN "SUPPRESSED_SENTINEL" listD u
section
variable {p : Program} {l : Launch} {e : Env} {R : Room} {s : State} {m : MethodId} {args : Array Value} {below : List Frame} {meth : Method} {c : Code} {T : State} {locs : List Loc} {cells slots : Nat} {Z : State} {a0 : Array Value} {h h0 h' : Heap} {Q : Outcome → State → Prop} {pc q : Nat} {Ls : Array Slot} {st : List Value} {a : Addr}
/-- no cell but a has changed -/
def Only (h h' : Heap) (a : Addr) : Prop := h'.size = h.size ∧ ∀ y : Addr, y ≠ a → h'[y]? = h[y]?
theorem Only.same (q : h0 = h) : Only h0 h a := by subst q; exact ⟨rfl, fun _ _ => rfl⟩
theorem Only.wr {sl : Nat} {v : Value} (F : Only h0 h a) (W : Wr h h' a sl v) : Only h0 h' a := by
  obtain ⟨cell, -, -, -, rfl⟩ := W
  exact ⟨by simpa using F.1, fun y hy => by rw [Array.getElem?_setIfInBounds_ne (Ne.symm hy)]; exact F.2 y hy⟩
set_option maxHeartbeats 4000000 in
end
end Jvm.OwnKit
namespace Jvm.OwnKit
theorem on_int {i : Nat} (h : i < 2147483648) : (Int32.ofNat i).toInt = i := by
  rw [Int32.toInt_ofNat']
  have sz : Int32.size = 4294967296 := rfl
  exact Int.bmod_eq_of_le (by omega) (by omega)
theorem on_clamp {i : Nat} (h : i < 2147483648) : (Int32.ofNat i).toNatClampNeg = i := by
  show (Int32.ofNat i).toInt.toNat = i
  rw [on_int h]; rfl
theorem on_nn {i : Nat} (h : i < 2147483648) : ¬ Int32.ofNat i < 0 := by
  have e0 : (0 : Int32).toInt = 0 := by decide
  rw [Int32.lt_iff_toInt_lt, on_int h, e0]; omega
theorem on_lt {i n : Nat} (h : i < n) (hn : n < 2147483648) : Int32.ofNat i < Int32.ofNat n := by
  rw [Int32.lt_iff_toInt_lt, on_int hn, on_int (by omega)]; omega
theorem on_ne {i n : Nat} (h : i < n) (hn : n < 2147483648) : ¬ Int32.ofNat i = Int32.ofNat n := fun q => by
  have q1 := congrArg Int32.toInt q
  rw [on_int hn, on_int (by omega)] at q1
  omega
theorem on_ltr {i n : Nat} (hi : i < 2147483648) (hn : n < 2147483648) (h : Int32.ofNat i < Int32.ofNat n) : i < n := by
  rw [Int32.lt_iff_toInt_lt, on_int hi, on_int hn] at h; omega
theorem lt_irr {x : Int32} : ¬ x < x := by rw [Int32.lt_iff_toInt_lt]; omega
end Jvm.OwnKit
namespace Jvm.OwnKit
open Jvm Jvm.ClassFile Sem Op Lib Jvm.Free Jvm.Stand Jvm.LawKit Jvm.RoadKit
theorem cp_le {x y z : Int32} {a b c : Nat} (h1 : x.toNatClampNeg = a) (h2 : y.toNatClampNeg = b) (h3 : z.toNatClampNeg = c) (h : a + b ≤ c) : x.toNatClampNeg + y.toNatClampNeg ≤ z.toNatClampNeg := by rw [h1, h2, h3]; exact h
theorem cp_len {x y : Int32} {a b n : Nat} {vd : List Value} (h1 : x.toNatClampNeg = a) (h2 : y.toNatClampNeg = b) (h3 : vd.length = n) (h : a + b ≤ n) : x.toNatClampNeg + y.toNatClampNeg ≤ vd.length := by rw [h1, h2, h3]; exact h
theorem cp_us {x y : Int32} {a b : Nat} {vs : List Value} {d : Value} (h1 : x.toNatClampNeg = a) (h2 : y.toNatClampNeg = b) : sub vs a b d = (List.range y.toNatClampNeg).map fun i => vs.getD (x.toNatClampNeg + i) d := by rw [h1, h2]; rfl
theorem cp_ins {Z : State} {h : Heap} {q : Addr} {kc : ClassId} {ty : FieldType} {z x y : Int32} {a b : Nat} {vd us : List Value} {d : Value} (h1 : x.toNatClampNeg = a) (h2 : y.toNatClampNeg = b) (V : Arv Z h q kc ty z (vd.take x.toNatClampNeg ++ us ++ vd.drop (x.toNatClampNeg + y.toNatClampNeg)) d) : Arv Z h q kc ty z (ins vd us a b) d := by rw [h1, h2] at V; exact V
end Jvm.OwnKit

namespace Jvm.Pilot.@@N@@
open Jvm Jvm.ClassFile Sem Op Lib Jvm.Free Jvm.Stand Jvm.LawKit Jvm.RoadKit Jvm.OwnKit Bundle Jvm.Pilot.@@N@@.Jvm.D
abbrev HW (a0 : Array Value) (Z : State) : Prop := ∀ d ∈ tables_1, d.before a0 Z = true
abbrev tSC (Z : State) (zC : Int32) : Prop := Sta Z Z.heap "java/lang/String" "COMPACT_STRINGS" "Z" (.int zC)
abbrev tSF (Z : State) (vF : Value) : Prop := Sta Z Z.heap "jdk/internal/util/Preconditions" "SIOOBE_FORMATTER" "Ljava/util/function/BiFunction;" vF
abbrev tSI (Z : State) (aI : Addr) : Prop := Sta Z Z.heap "java/lang/CharacterDataLatin1" "instance" "Ljava/lang/CharacterDataLatin1;" (.ref aI)
abbrev tSR (Z : State) (aR : Addr) : Prop := Sta Z Z.heap "java/util/Locale" "ROOT" "Ljava/util/Locale;" (.ref aR)
set_option maxRecDepth 65536
set_option maxHeartbeats 40000000
abbrev iv (x : Int32) : Value := .int x
abbrev sT0 : String := "java/lang/String"
abbrev sT1 : String := "com/example/handoff/handoff/internal/MediaTypesEssencePinLaw"
def chr (x : Int32) : Int32 := (x &&& 255).toUInt32.toUInt16.toUInt32.toInt32
theorem chr_eq (x : Int32) : chr x = x &&& 255 := i2c_mask x
theorem chr_rng (x : Int32) : ¬ chr x < 0 ∧ ¬ (255 : Int32) < chr x := by
  rw [chr_eq]
  have h := c_mask x 255 8 (by decide) (by decide)
  simp only [Int32.lt_iff_toInt_lt]
  have h0 : (0 : Int32).toInt = 0 := by decide
  have h1 : (255 : Int32).toInt = 255 := by decide
  rw [h, h0, h1]
  have : (2 ^ 8 : Nat) = 256 := by decide
  omega
theorem chr_nar (x : Int32) : nar .char (chr x) = chr x := by simp only [nar, chr, UInt32.toUInt32_toInt32, UInt16.toUInt16_toUInt32]
theorem al0 {P : Int32 → Prop} : ∀ c ∈ ([] : List Int32), P c := fun _ q => nomatch q
theorem alS {P : Int32 → Prop} {y : Int32} {L : List Int32} (q : P y) (r : ∀ x ∈ L, P x) : ∀ x ∈ y :: L, P x := fun x z => (List.mem_cons.mp z).elim (fun u => u ▸ q) (r x)
theorem shr_zero (x : Int32) : x >>> ((0 : Int32) &&& 31) = x := by
  rw [show ((0 : Int32) &&& 31) = 0 from by decide]
  exact Int32.toInt_inj.mp (by rw [show x >>> (0 : Int32) = x >>> ((0 : Int32) &&& 31) from by rw [show ((0 : Int32) &&& 31) = 0 from by decide], c_ishr x 0 0 (by decide)]; simp)
theorem lo8_nar (x : Int32) : nar .byte (StrChars.lo8 x) = StrChars.lo8 x := by simp [nar, StrChars.lo8]
abbrev EL : List (String × Nat) := [("java/lang/StringLatin1", 151), ("java/lang/StringLatin1", 168), ("java/lang/StringLatin1", 170), ("java/lang/StringLatin1", 172)]
theorem wd192 {a0 : Array Value} {Z : State} (hw : HW a0 Z) : ((Jvm.Cond.stringLink "java/lang/StringLatin1" (172 : Nat) "lt") : Jvm.Cond).before a0 Z = true := hw _ (List.mem_of_getElem? (i := 192) rfl)
theorem wd191 {a0 : Array Value} {Z : State} (hw : HW a0 Z) : ((Jvm.Cond.stringLink "java/lang/StringLatin1" (170 : Nat) "az") : Jvm.Cond).before a0 Z = true := hw _ (List.mem_of_getElem? (i := 191) rfl)
theorem wd190 {a0 : Array Value} {Z : State} (hw : HW a0 Z) : ((Jvm.Cond.stringLink "java/lang/StringLatin1" (168 : Nat) "tr") : Jvm.Cond).before a0 Z = true := hw _ (List.mem_of_getElem? (i := 190) rfl)
theorem wd106 {a0 : Array Value} {Z : State} (hw : HW a0 Z) : ((Jvm.Cond.stringLink "java/lang/StringLatin1" (151 : Nat) "") : Jvm.Cond).before a0 Z = true := hw _ (List.mem_of_getElem? (i := 106) rfl)
theorem own_EW {a0 : Array Value} {Z : State} (hw : HW a0 Z) : EW Z a0 EL := EW.cons (wd106 hw) (by decide) (EW.cons (wd190 hw) (by decide) (EW.cons (wd191 hw) (by decide) (EW.cons (wd192 hw) (by decide) (EW.nil))))
theorem own_wS {a0 : Array Value} {Z : State} (hw : HW a0 Z) : ∀ d ∈ Bundle.stringAtoms, d.before a0 Z = true := fun d hd => hw d ((by decide +kernel : ∀ d ∈ Bundle.stringAtoms, d ∈ tables_1) d hd)
theorem own_wStr {a0 : Array Value} {Z : State} (hw : HW a0 Z) : ∀ d ∈ StrChars.Road.words, d.before a0 Z = true := fun d hd => hw d ((by decide +kernel : ∀ d ∈ StrChars.Road.words, d ∈ tables_1) d hd)
theorem own_LN {a0 : Array Value} {Z : State} (hw : HW a0 Z) (n : Nat) (h : [0, 2, 2, 2].contains n = false) : ∀ p ∈ EL, ∃ text : String, (Jvm.Cond.stringLink p.1 p.2 text).before a0 Z = true ∧ (∀ c ∈ text.toList, c.toNat < 256) ∧ text.toList.length ≠ n := by
  intro p hp
  simp only [EL, List.mem_cons, List.not_mem_nil, or_false] at hp
  rcases hp with rfl | rfl | rfl | rfl
  · exact ⟨_, (wd106 hw), by decide, fun e => by subst e; revert h; decide⟩
  · exact ⟨_, (wd190 hw), by decide, fun e => by subst e; revert h; decide⟩
  · exact ⟨_, (wd191 hw), by decide, fun e => by subst e; revert h; decide⟩
  · exact ⟨_, (wd192 hw), by decide, fun e => by subst e; revert h; decide⟩
theorem sub_zero32 (x : Int32) : x - (0 : Int32) = x := by simp
theorem shl_zero (x : Int32) : x <<< ((0 : Int32) &&& 31) = x := by
  rw [show ((0 : Int32) &&& 31) = 0 from by decide]; simp
theorem i2c_nar (x : Int32) : nar .char (x.toUInt32.toUInt16.toUInt32.toInt32) = x.toUInt32.toUInt16.toUInt32.toInt32 := by simp only [nar, UInt32.toUInt32_toInt32, UInt16.toUInt16_toUInt32]
/-- every value of a byte, asked one by one -/
theorem all256 {P : Int32 → Prop} [DecidablePred P] (h : ∀ n : Fin 256, P (Int32.ofNat n.val)) {c : Int32} (h0 : ¬ c < 0) (h1 : ¬ (255 : Int32) < c) : P c := by
  have e0 : (0 : Int32).toInt = 0 := by decide
  have e1 : (255 : Int32).toInt = 255 := by decide
  simp only [Int32.lt_iff_toInt_lt, e0, e1] at h0 h1
  have hn : c.toInt.toNat < 256 := by omega
  have q := h ⟨c.toInt.toNat, hn⟩
  have e : Int32.ofNat c.toInt.toNat = c := by
    apply Int32.toInt_inj.mp
    rw [Int32.toInt_ofNat']
    have : (c.toInt.toNat : Int) = c.toInt := by omega
    rw [this]
    have r := Int32.le_toInt c
    have r2 := Int32.toInt_lt c
    have sz : Int32.size = 4294967296 := rfl
    exact Int.bmod_eq_of_le (by omega) (by omega)
  rw [← e]; exact q
def low (c : Int32) : Int32 := if ¬ c < 65 ∧ ¬ (90 : Int32) < c then c + 32 else if ¬ c < 192 ∧ ¬ (222 : Int32) < c ∧ ¬ c = 215 then c + 32 else c
theorem low_rng {c : Int32} (h0 : ¬ c < 0) (h1 : ¬ (255 : Int32) < c) : ¬ low c < 0 ∧ ¬ (255 : Int32) < low c := all256 (P := fun c => ¬ low c < 0 ∧ ¬ (255 : Int32) < low c) (by decide +kernel) h0 h1
theorem back8 {c : Int32} (h0 : ¬ c < 0) (h1 : ¬ (255 : Int32) < c) : (StrChars.lo8 c) &&& 255 = c := all256 (P := fun c => (StrChars.lo8 c) &&& 255 = c) (by decide +kernel) h0 h1
theorem rng34 (x : Int32) : ¬ ((((x.toUInt32 >>> ((2 : Int32) &&& 31).toUInt32).toInt32) % (34 : Int32)).toUInt32.toUInt16.toUInt32.toInt32) < 0 ∧ ¬ (255 : Int32) < ((((x.toUInt32 >>> ((2 : Int32) &&& 31).toUInt32).toInt32) % (34 : Int32)).toUInt32.toUInt16.toUInt32.toInt32) := by
  have h := c_iushr x 2 2 (by decide) (by decide)
  rw [show (2 ^ 2 : Nat) = 4 from by decide] at h
  generalize ((x.toUInt32 >>> ((2 : Int32) &&& 31).toUInt32).toInt32) = y at *
  have h2 := (c_irem y 34 34 (by decide)).1 (by omega)
  have h3 := c_i2c (y % 34)
  have e0 : (0 : Int32).toInt = 0 := by decide
  have e1 : (255 : Int32).toInt = 255 := by decide
  simp only [Int32.lt_iff_toInt_lt, e0, e1]
  omega
theorem lowA {c : Int32} (h0 : ¬ c < 0) (h1 : ¬ (255 : Int32) < c) : ¬ c < 65 → ¬ (90 : Int32) < c → low c = (c + 32).toUInt32.toUInt16.toUInt32.toInt32 := all256 (P := fun c => ¬ c < 65 → ¬ (90 : Int32) < c → low c = (c + 32).toUInt32.toUInt16.toUInt32.toInt32) (by decide +kernel) h0 h1
theorem lowB {c : Int32} (h0 : ¬ c < 0) (h1 : ¬ (255 : Int32) < c) : ¬ c < 192 → ¬ (222 : Int32) < c → ¬ c = 215 → low c = (c + 32).toUInt32.toUInt16.toUInt32.toInt32 := all256 (P := fun c => ¬ c < 192 → ¬ (222 : Int32) < c → ¬ c = 215 → low c = (c + 32).toUInt32.toUInt16.toUInt32.toInt32) (by decide +kernel) h0 h1
theorem lowC1 {c : Int32} (h0 : ¬ c < 0) (h1 : ¬ (255 : Int32) < c) : c < 65 → low c = c := all256 (P := fun c => c < 65 → low c = c) (by decide +kernel) h0 h1
theorem lowC2 {c : Int32} (h0 : ¬ c < 0) (h1 : ¬ (255 : Int32) < c) : (90 : Int32) < c → c < 192 → low c = c := all256 (P := fun c => (90 : Int32) < c → c < 192 → low c = c) (by decide +kernel) h0 h1
theorem lowC3 {c : Int32} (h0 : ¬ c < 0) (h1 : ¬ (255 : Int32) < c) : (222 : Int32) < c → low c = c := all256 (P := fun c => (222 : Int32) < c → low c = c) (by decide +kernel) h0 h1
theorem lowC4 {c : Int32} (h0 : ¬ c < 0) (h1 : ¬ (255 : Int32) < c) : c = 215 → low c = c := all256 (P := fun c => c = 215 → low c = c) (by decide +kernel) h0 h1
theorem lowD {c : Int32} (h0 : ¬ c < 0) (h1 : ¬ (255 : Int32) < c) : ¬ c < 65 → ¬ (122 : Int32) < (c ||| 32) → low c = (c ||| 32) := all256 (P := fun c => ¬ c < 65 → ¬ (122 : Int32) < (c ||| 32) → low c = (c ||| 32)) (by decide +kernel) h0 h1
theorem lowE {c : Int32} (h0 : ¬ c < 0) (h1 : ¬ (255 : Int32) < c) : ¬ c < 65 → (122 : Int32) < (c ||| 32) → ¬ (c ||| 32) < 224 → ¬ (254 : Int32) < (c ||| 32) → ¬ (c ||| 32) = 247 → low c = (c ||| 32) := all256 (P := fun c => ¬ c < 65 → (122 : Int32) < (c ||| 32) → ¬ (c ||| 32) < 224 → ¬ (254 : Int32) < (c ||| 32) → ¬ (c ||| 32) = 247 → low c = (c ||| 32)) (by decide +kernel) h0 h1
theorem lowF {c : Int32} (h0 : ¬ c < 0) (h1 : ¬ (255 : Int32) < c) : ¬ c < 65 → (122 : Int32) < (c ||| 32) → (c ||| 32) < 224 → low c = c := all256 (P := fun c => ¬ c < 65 → (122 : Int32) < (c ||| 32) → (c ||| 32) < 224 → low c = c) (by decide +kernel) h0 h1
theorem lowG {c : Int32} (h0 : ¬ c < 0) (h1 : ¬ (255 : Int32) < c) : ¬ c < 65 → (254 : Int32) < (c ||| 32) → low c = c := all256 (P := fun c => ¬ c < 65 → (254 : Int32) < (c ||| 32) → low c = c) (by decide +kernel) h0 h1
theorem lowH {c : Int32} (h0 : ¬ c < 0) (h1 : ¬ (255 : Int32) < c) : ¬ c < 65 → (c ||| 32) = 247 → low c = c := all256 (P := fun c => ¬ c < 65 → (c ||| 32) = 247 → low c = c) (by decide +kernel) h0 h1
def fse (c0 c1 c2 c3 c4 : Int32) : Int32 := if c0 = 59 then 0 else if c1 = 59 then 1 else if c2 = 59 then 2 else if c3 = 59 then 3 else if c4 = 59 then 4 else 5
def fso (c0 c1 c2 c3 c4 e : Int32) : Int32 := if 0 < e ∧ 32 < c0 then 0 else if 1 < e ∧ 32 < c1 then 1 else if 2 < e ∧ 32 < c2 then 2 else if 3 < e ∧ 32 < c3 then 3 else if 4 < e ∧ 32 < c4 then 4 else e
def lse (c0 c1 c2 c3 c4 e : Int32) : Int32 := if 4 < e ∧ 32 < c4 then 5 else if 3 < e ∧ 32 < c3 then 4 else if 2 < e ∧ 32 < c2 then 3 else if 1 < e ∧ 32 < c1 then 2 else if 0 < e ∧ 32 < c0 then 1 else 0
def imx (a b : Int32) : Int32 := if a < b then b else a
def ebl (cs : List Int32) (i n : Int32) : List Value := (List.range n.toNatClampNeg).map fun k => .int (StrChars.lo8 (low (cs.getD (i.toNatClampNeg + k) 0)))
theorem fse_fin (c0 c1 c2 c3 c4 : Int32) : fse c0 c1 c2 c3 c4 = 0 ∨ fse c0 c1 c2 c3 c4 = 1 ∨ fse c0 c1 c2 c3 c4 = 2 ∨ fse c0 c1 c2 c3 c4 = 3 ∨ fse c0 c1 c2 c3 c4 = 4 ∨ fse c0 c1 c2 c3 c4 = 5 := by
  unfold fse
  repeat' split
  all_goals simp
theorem d_method_2_0 : decode method_2_code 0 = .ok (.iload_n 0, 1) := by decide +kernel
theorem d_method_2_1 : decode method_2_code 1 = .ok (.iconst 3, 1) := by decide +kernel
theorem d_method_2_2 : decode method_2_code 2 = .ok (.iand, 1) := by decide +kernel
theorem d_method_2_3 : decode method_2_code 3 = .ok (.istore_n 1, 1) := by decide +kernel
theorem d_method_2_4 : decode method_2_code 4 = .ok (.iload_n 1, 1) := by decide +kernel
theorem d_method_2_5 : decode method_2_code 5 = .ok (.ifCond .ne 6, 3) := by decide +kernel
theorem d_method_2_8 : decode method_2_code 8 = .ok (.bipush 59, 2) := by decide +kernel
theorem d_method_2_10 : decode method_2_code 10 = .ok (.ireturn, 1) := by decide +kernel
theorem d_method_2_11 : decode method_2_code 11 = .ok (.iload_n 1, 1) := by decide +kernel
theorem d_method_2_12 : decode method_2_code 12 = .ok (.iconst 1, 1) := by decide +kernel
theorem d_method_2_13 : decode method_2_code 13 = .ok (.if_icmp .ne 11, 3) := by decide +kernel
theorem d_method_2_16 : decode method_2_code 16 = .ok (.iload_n 0, 1) := by decide +kernel
theorem d_method_2_17 : decode method_2_code 17 = .ok (.iconst 2, 1) := by decide +kernel
theorem d_method_2_18 : decode method_2_code 18 = .ok (.iushr, 1) := by decide +kernel
theorem d_method_2_19 : decode method_2_code 19 = .ok (.bipush 34, 2) := by decide +kernel
theorem d_method_2_21 : decode method_2_code 21 = .ok (.irem, 1) := by decide +kernel
theorem d_method_2_22 : decode method_2_code 22 = .ok (.i2c, 1) := by decide +kernel
theorem d_method_2_23 : decode method_2_code 23 = .ok (.ireturn, 1) := by decide +kernel
theorem d_method_2_24 : decode method_2_code 24 = .ok (.iload_n 0, 1) := by decide +kernel
theorem d_method_2_25 : decode method_2_code 25 = .ok (.iconst 2, 1) := by decide +kernel
theorem d_method_2_26 : decode method_2_code 26 = .ok (.iushr, 1) := by decide +kernel
theorem d_method_2_27 : decode method_2_code 27 = .ok (.sipush 255, 3) := by decide +kernel
theorem d_method_2_30 : decode method_2_code 30 = .ok (.iand, 1) := by decide +kernel
theorem d_method_2_31 : decode method_2_code 31 = .ok (.i2c, 1) := by decide +kernel
theorem d_method_2_32 : decode method_2_code 32 = .ok (.ireturn, 1) := by decide +kernel
def Q_draw (Z : State) (zC : Int32) (vF : Value) (aI : Addr) (aR : Addr) (x : Int32) (h0 : Heap) (v : Option Value) (h : Heap) (L : List Loc) : Prop := ∃ (y : Int32), v = some (.int y) ∧ Fr Z.heap.size L ∧ h = h0 ∧ (¬ (y < (0 : Int32))) ∧ (¬ ((255 : Int32) < y))
theorem pn0 : plainName "com/example/handoff/handoff/internal/MediaTypesEssencePinLaw" = true := by first | (simp [plainName, overriddenIn]; done) | decide +kernel
theorem rm_draw (l : Launch) (Z : State) (a0 : Array Value) (hw : HW a0 Z) (zC : Int32) (SC : tSC Z zC) (PC : ¬ zC = (0 : Int32)) (vF : Value) (rF : vF = .null ∨ ∃ a, vF = .ref a) (SF : tSF Z vF) (aI : Addr) (SI : tSI Z aI) (aR : Addr) (SR : tSR Z aR) (x : Int32) (h0 : Heap) (O0 : Old Z Z.heap.size h0)  :
    Con l Z (⟨sT1, "draw", "(I)C"⟩ : MethodName) method_2_code 2 (some .char) ({ frames := 0, cells := 0, slots := 0, locals := 0 } : Room) #[(.int x)] h0 (Q_draw Z zC vF aI aR x h0) := by
  refine Con.intro (plainFor_of_name pn0) ?_
  intro p e s m below meth c T0 X0 hx hby hml hown0 hnm hret hlk hZ0 e0
  have N0 := Fr.nil Z.heap.size
  refine castGo (g' := mkF m 0 #[.val (.int x), .unset] []) (by first | rfl | (simp [entryFrame, mkF, argsToLocals, Value.category]; done)) ?_
  show Go _ _ _ _ (T0.setTop (mkF m 0 #[.val (.int x), .unset] []))
  refine iL X0 hx (hb hby d_method_2_0) (q := 1) rfl rfl ?_
  refine cI X0 hx (hb hby d_method_2_1) (q := 2) rfl (z := (3 : Int32)) rfl ?_
  refine g_iand X0 hx (hb hby d_method_2_2) (q := 3) rfl rfl ?_
  refine sI X0 hx (hb hby d_method_2_3) (q := 4) rfl (Ls' := #[.val (.int x), .val (.int (x &&& (3 : Int32)))]) rfl ?_
  refine iL X0 hx (hb hby d_method_2_4) (q := 5) rfl rfl ?_
  by_cases hc1 : (x &&& (3 : Int32)) = (0 : Int32)
  · refine ifN X0 hx (hb hby d_method_2_5) (q := 8) rfl ((if0 _ _).trans (teq hc1).2) ?_
    refine bI X0 hx (hb hby d_method_2_8) (q := 10) rfl (z := (59 : Int32)) rfl ?_
    refine endP X0 hlk (fun h => by rw [hret] at h; cases h) (lastN X0 hx (t := .char) (z' := (59 : Int32)) hret (by simp) (by decide) (hb hby d_method_2_10)) ?_ (by decide) (by decide)
    rw [e0]
    exact ⟨(59 : Int32), rfl, N0, rfl, (by decide), (by decide)⟩
  · refine ifY X0 hx (hb hby d_method_2_5) (q := 11) (by decide) (by decide) ((if0 _ _).trans (feq hc1).2) ?_
    refine iL X0 hx (hb hby d_method_2_11) (q := 12) rfl rfl ?_
    refine cI X0 hx (hb hby d_method_2_12) (q := 13) rfl (z := (1 : Int32)) rfl ?_
    by_cases hc2 : (x &&& (3 : Int32)) = (1 : Int32)
    · refine icN X0 hx (hb hby d_method_2_13) (q := 16) rfl (teq hc2).2 ?_
      refine iL X0 hx (hb hby d_method_2_16) (q := 17) rfl rfl ?_
      refine cI X0 hx (hb hby d_method_2_17) (q := 18) rfl (z := (2 : Int32)) rfl ?_
      refine g_iushr X0 hx (hb hby d_method_2_18) (q := 19) rfl rfl ?_
      refine bI X0 hx (hb hby d_method_2_19) (q := 21) rfl (z := (34 : Int32)) rfl ?_
      refine g_irem X0 hx (hb hby d_method_2_21) (q := 22) rfl (by decide) rfl ?_
      refine g_i2c X0 hx (hb hby d_method_2_22) (q := 23) rfl rfl ?_
      refine endP X0 hlk (fun h => by rw [hret] at h; cases h) (lastN X0 hx (t := .char) (z' := ((((x.toUInt32 >>> ((2 : Int32) &&& 31).toUInt32).toInt32) % (34 : Int32)).toUInt32.toUInt16.toUInt32.toInt32)) hret (by simp) (i2c_nar _) (hb hby d_method_2_23)) ?_ (by decide) (by decide)
      rw [e0]
      exact ⟨((((x.toUInt32 >>> ((2 : Int32) &&& 31).toUInt32).toInt32) % (34 : Int32)).toUInt32.toUInt16.toUInt32.toInt32), rfl, N0, rfl, (rng34 _).1, (rng34 _).2⟩
    · refine icY X0 hx (hb hby d_method_2_13) (q := 24) (by decide) (by decide) (feq hc2).2 ?_
      refine iL X0 hx (hb hby d_method_2_24) (q := 25) rfl rfl ?_
      refine cI X0 hx (hb hby d_method_2_25) (q := 26) rfl (z := (2 : Int32)) rfl ?_
      refine g_iushr X0 hx (hb hby d_method_2_26) (q := 27) rfl rfl ?_
      refine pI X0 hx (hb hby d_method_2_27) (q := 30) rfl (z := (255 : Int32)) rfl ?_
      refine g_iand X0 hx (hb hby d_method_2_30) (q := 31) rfl rfl ?_
      refine g_i2c X0 hx (hb hby d_method_2_31) (q := 32) rfl (z := (chr ((x.toUInt32 >>> ((2 : Int32) &&& 31).toUInt32).toInt32))) rfl ?_
      refine endP X0 hlk (fun h => by rw [hret] at h; cases h) (lastN X0 hx (t := .char) (z' := (chr ((x.toUInt32 >>> ((2 : Int32) &&& 31).toUInt32).toInt32))) hret (by simp) (chr_nar _) (hb hby d_method_2_32)) ?_ (by decide) (by decide)
      rw [e0]
      exact ⟨(chr ((x.toUInt32 >>> ((2 : Int32) &&& 31).toUInt32).toInt32)), rfl, N0, rfl, (chr_rng _).1, (chr_rng _).2⟩
theorem nar_of255 {c : Int32} (h0 : ¬ c < 0) (h1 : ¬ (255 : Int32) < c) : nar .char c = c := all256 (P := fun c => nar .char c = c) (by decide +kernel) h0 h1
theorem d_method_3_0 : decode method_3_code 0 = .ok (.iload_n 0, 1) := by decide +kernel
theorem d_method_3_1 : decode method_3_code 1 = .ok (.bipush 65, 2) := by decide +kernel
theorem d_method_3_3 : decode method_3_code 3 = .ok (.if_icmp .lt 15, 3) := by decide +kernel
theorem d_method_3_18 : decode method_3_code 18 = .ok (.iload_n 0, 1) := by decide +kernel
theorem d_method_3_19 : decode method_3_code 19 = .ok (.sipush 192, 3) := by decide +kernel
theorem d_method_3_22 : decode method_3_code 22 = .ok (.if_icmp .lt 23, 3) := by decide +kernel
theorem d_method_3_45 : decode method_3_code 45 = .ok (.iload_n 0, 1) := by decide +kernel
theorem d_method_3_46 : decode method_3_code 46 = .ok (.ireturn, 1) := by decide +kernel
theorem d_method_3_25 : decode method_3_code 25 = .ok (.iload_n 0, 1) := by decide +kernel
theorem d_method_3_26 : decode method_3_code 26 = .ok (.sipush 222, 3) := by decide +kernel
theorem d_method_3_29 : decode method_3_code 29 = .ok (.if_icmp .gt 16, 3) := by decide +kernel
theorem d_method_3_32 : decode method_3_code 32 = .ok (.iload_n 0, 1) := by decide +kernel
theorem d_method_3_33 : decode method_3_code 33 = .ok (.sipush 215, 3) := by decide +kernel
theorem d_method_3_36 : decode method_3_code 36 = .ok (.if_icmp .eq 9, 3) := by decide +kernel
theorem d_method_3_39 : decode method_3_code 39 = .ok (.iload_n 0, 1) := by decide +kernel
theorem d_method_3_40 : decode method_3_code 40 = .ok (.bipush 32, 2) := by decide +kernel
theorem d_method_3_42 : decode method_3_code 42 = .ok (.iadd, 1) := by decide +kernel
theorem d_method_3_43 : decode method_3_code 43 = .ok (.i2c, 1) := by decide +kernel
theorem d_method_3_44 : decode method_3_code 44 = .ok (.ireturn, 1) := by decide +kernel
theorem d_method_3_6 : decode method_3_code 6 = .ok (.iload_n 0, 1) := by decide +kernel
theorem d_method_3_7 : decode method_3_code 7 = .ok (.bipush 90, 2) := by decide +kernel
theorem d_method_3_9 : decode method_3_code 9 = .ok (.if_icmp .gt 9, 3) := by decide +kernel
theorem d_method_3_12 : decode method_3_code 12 = .ok (.iload_n 0, 1) := by decide +kernel
theorem d_method_3_13 : decode method_3_code 13 = .ok (.bipush 32, 2) := by decide +kernel
theorem d_method_3_15 : decode method_3_code 15 = .ok (.iadd, 1) := by decide +kernel
theorem d_method_3_16 : decode method_3_code 16 = .ok (.i2c, 1) := by decide +kernel
theorem d_method_3_17 : decode method_3_code 17 = .ok (.ireturn, 1) := by decide +kernel
def Q_lower (Z : State) (zC : Int32) (vF : Value) (aI : Addr) (aR : Addr) (c0 : Int32) (h0 : Heap) (v : Option Value) (h : Heap) (L : List Loc) : Prop := v = some (.int (low c0)) ∧ Fr Z.heap.size L ∧ h = h0
theorem rm_lower (l : Launch) (Z : State) (a0 : Array Value) (hw : HW a0 Z) (zC : Int32) (SC : tSC Z zC) (PC : ¬ zC = (0 : Int32)) (vF : Value) (rF : vF = .null ∨ ∃ a, vF = .ref a) (SF : tSF Z vF) (aI : Addr) (SI : tSI Z aI) (aR : Addr) (SR : tSR Z aR) (c0 : Int32) (h0 : Heap) (O0 : Old Z Z.heap.size h0) (H0 : (¬ (c0 < (0 : Int32)))) (J0 : (¬ ((255 : Int32) < c0))) :
    Con l Z (⟨sT1, "lower", "(C)C"⟩ : MethodName) method_3_code 1 (some .char) ({ frames := 0, cells := 0, slots := 0, locals := 0 } : Room) #[(.int c0)] h0 (Q_lower Z zC vF aI aR c0 h0) := by
  refine Con.intro (plainFor_of_name pn0) ?_
  intro p e s m below meth c T0 X0 hx hby hml hown0 hnm hret hlk hZ0 e0
  have N0 := Fr.nil Z.heap.size
  refine castGo (g' := mkF m 0 #[.val (.int c0)] []) (by first | rfl | (simp [entryFrame, mkF, argsToLocals, Value.category]; done)) ?_
  show Go _ _ _ _ (T0.setTop (mkF m 0 #[.val (.int c0)] []))
  refine iL X0 hx (hb hby d_method_3_0) (q := 1) rfl rfl ?_
  refine bI X0 hx (hb hby d_method_3_1) (q := 3) rfl (z := (65 : Int32)) rfl ?_
  by_cases hc3 : c0 < (65 : Int32)
  · refine icY X0 hx (hb hby d_method_3_3) (q := 18) (by decide) (by decide) (tlt hc3).1 ?_
    refine iL X0 hx (hb hby d_method_3_18) (q := 19) rfl rfl ?_
    refine pI X0 hx (hb hby d_method_3_19) (q := 22) rfl (z := (192 : Int32)) rfl ?_
    by_cases hc4 : c0 < (192 : Int32)
    · refine icY X0 hx (hb hby d_method_3_22) (q := 45) (by decide) (by decide) (tlt hc4).1 ?_
      refine iL X0 hx (hb hby d_method_3_45) (q := 46) rfl rfl ?_
      refine castGo (g' := mkF m 46 #[.val (.int c0)] [(.int (low c0))]) (by rw [(lowC1 H0 J0 hc3)]) ?_
      refine endP X0 hlk (fun h => by rw [hret] at h; cases h) (lastN X0 hx (t := .char) (z' := (low c0)) hret (by simp) (nar_of255 (low_rng H0 J0).1 (low_rng H0 J0).2) (hb hby d_method_3_46)) ?_ (by decide) (by decide)
      rw [e0]
      exact ⟨rfl, N0, rfl⟩
    · refine icN X0 hx (hb hby d_method_3_22) (q := 25) rfl (flt hc4).1 ?_
      refine iL X0 hx (hb hby d_method_3_25) (q := 26) rfl rfl ?_
      refine pI X0 hx (hb hby d_method_3_26) (q := 29) rfl (z := (222 : Int32)) rfl ?_
      by_cases hc5 : (222 : Int32) < c0
      · refine icY X0 hx (hb hby d_method_3_29) (q := 45) (by decide) (by decide) (tlt hc5).2.2.1 ?_
        refine iL X0 hx (hb hby d_method_3_45) (q := 46) rfl rfl ?_
        refine castGo (g' := mkF m 46 #[.val (.int c0)] [(.int (low c0))]) (by rw [(lowC1 H0 J0 hc3)]) ?_
        refine endP X0 hlk (fun h => by rw [hret] at h; cases h) (lastN X0 hx (t := .char) (z' := (low c0)) hret (by simp) (nar_of255 (low_rng H0 J0).1 (low_rng H0 J0).2) (hb hby d_method_3_46)) ?_ (by decide) (by decide)
        rw [e0]
        exact ⟨rfl, N0, rfl⟩
      · refine icN X0 hx (hb hby d_method_3_29) (q := 32) rfl (flt hc5).2.2.1 ?_
        refine iL X0 hx (hb hby d_method_3_32) (q := 33) rfl rfl ?_
        refine pI X0 hx (hb hby d_method_3_33) (q := 36) rfl (z := (215 : Int32)) rfl ?_
        by_cases hc6 : c0 = (215 : Int32)
        · refine icY X0 hx (hb hby d_method_3_36) (q := 45) (by decide) (by decide) (teq hc6).1 ?_
          refine iL X0 hx (hb hby d_method_3_45) (q := 46) rfl rfl ?_
          refine castGo (g' := mkF m 46 #[.val (.int c0)] [(.int (low c0))]) (by rw [(lowC1 H0 J0 hc3)]) ?_
          refine endP X0 hlk (fun h => by rw [hret] at h; cases h) (lastN X0 hx (t := .char) (z' := (low c0)) hret (by simp) (nar_of255 (low_rng H0 J0).1 (low_rng H0 J0).2) (hb hby d_method_3_46)) ?_ (by decide) (by decide)
          rw [e0]
          exact ⟨rfl, N0, rfl⟩
        · refine icN X0 hx (hb hby d_method_3_36) (q := 39) rfl (feq hc6).1 ?_
          refine iL X0 hx (hb hby d_method_3_39) (q := 40) rfl rfl ?_
          refine bI X0 hx (hb hby d_method_3_40) (q := 42) rfl (z := (32 : Int32)) rfl ?_
          refine g_iadd X0 hx (hb hby d_method_3_42) (q := 43) rfl rfl ?_
          refine g_i2c X0 hx (hb hby d_method_3_43) (q := 44) rfl rfl ?_
          refine castGo (g' := mkF m 44 #[.val (.int c0)] [(.int (low c0))]) (by rw [(lowB H0 J0 hc4 hc5 hc6)]) ?_
          refine endP X0 hlk (fun h => by rw [hret] at h; cases h) (lastN X0 hx (t := .char) (z' := (low c0)) hret (by simp) (nar_of255 (low_rng H0 J0).1 (low_rng H0 J0).2) (hb hby d_method_3_44)) ?_ (by decide) (by decide)
          rw [e0]
          exact ⟨rfl, N0, rfl⟩
  · refine icN X0 hx (hb hby d_method_3_3) (q := 6) rfl (flt hc3).1 ?_
    refine iL X0 hx (hb hby d_method_3_6) (q := 7) rfl rfl ?_
    refine bI X0 hx (hb hby d_method_3_7) (q := 9) rfl (z := (90 : Int32)) rfl ?_
    by_cases hc7 : (90 : Int32) < c0
    · refine icY X0 hx (hb hby d_method_3_9) (q := 18) (by decide) (by decide) (tlt hc7).2.2.1 ?_
      refine iL X0 hx (hb hby d_method_3_18) (q := 19) rfl rfl ?_
      refine pI X0 hx (hb hby d_method_3_19) (q := 22) rfl (z := (192 : Int32)) rfl ?_
      by_cases hc8 : c0 < (192 : Int32)
      · refine icY X0 hx (hb hby d_method_3_22) (q := 45) (by decide) (by decide) (tlt hc8).1 ?_
        refine iL X0 hx (hb hby d_method_3_45) (q := 46) rfl rfl ?_
        refine castGo (g' := mkF m 46 #[.val (.int c0)] [(.int (low c0))]) (by rw [(lowC2 H0 J0 hc7 hc8)]) ?_
        refine endP X0 hlk (fun h => by rw [hret] at h; cases h) (lastN X0 hx (t := .char) (z' := (low c0)) hret (by simp) (nar_of255 (low_rng H0 J0).1 (low_rng H0 J0).2) (hb hby d_method_3_46)) ?_ (by decide) (by decide)
        rw [e0]
        exact ⟨rfl, N0, rfl⟩
      · refine icN X0 hx (hb hby d_method_3_22) (q := 25) rfl (flt hc8).1 ?_
        refine iL X0 hx (hb hby d_method_3_25) (q := 26) rfl rfl ?_
        refine pI X0 hx (hb hby d_method_3_26) (q := 29) rfl (z := (222 : Int32)) rfl ?_
        by_cases hc9 : (222 : Int32) < c0
        · refine icY X0 hx (hb hby d_method_3_29) (q := 45) (by decide) (by decide) (tlt hc9).2.2.1 ?_
          refine iL X0 hx (hb hby d_method_3_45) (q := 46) rfl rfl ?_
          refine castGo (g' := mkF m 46 #[.val (.int c0)] [(.int (low c0))]) (by rw [(lowC3 H0 J0 hc9)]) ?_
          refine endP X0 hlk (fun h => by rw [hret] at h; cases h) (lastN X0 hx (t := .char) (z' := (low c0)) hret (by simp) (nar_of255 (low_rng H0 J0).1 (low_rng H0 J0).2) (hb hby d_method_3_46)) ?_ (by decide) (by decide)
          rw [e0]
          exact ⟨rfl, N0, rfl⟩
        · refine icN X0 hx (hb hby d_method_3_29) (q := 32) rfl (flt hc9).2.2.1 ?_
          refine iL X0 hx (hb hby d_method_3_32) (q := 33) rfl rfl ?_
          refine pI X0 hx (hb hby d_method_3_33) (q := 36) rfl (z := (215 : Int32)) rfl ?_
          by_cases hc10 : c0 = (215 : Int32)
          · refine icY X0 hx (hb hby d_method_3_36) (q := 45) (by decide) (by decide) (teq hc10).1 ?_
            refine iL X0 hx (hb hby d_method_3_45) (q := 46) rfl rfl ?_
            refine castGo (g' := mkF m 46 #[.val (.int c0)] [(.int (low c0))]) (by rw [(lowC4 H0 J0 hc10)]) ?_
            refine endP X0 hlk (fun h => by rw [hret] at h; cases h) (lastN X0 hx (t := .char) (z' := (low c0)) hret (by simp) (nar_of255 (low_rng H0 J0).1 (low_rng H0 J0).2) (hb hby d_method_3_46)) ?_ (by decide) (by decide)
            rw [e0]
            exact ⟨rfl, N0, rfl⟩
          · refine icN X0 hx (hb hby d_method_3_36) (q := 39) rfl (feq hc10).1 ?_
            refine iL X0 hx (hb hby d_method_3_39) (q := 40) rfl rfl ?_
            refine bI X0 hx (hb hby d_method_3_40) (q := 42) rfl (z := (32 : Int32)) rfl ?_
            refine g_iadd X0 hx (hb hby d_method_3_42) (q := 43) rfl rfl ?_
            refine g_i2c X0 hx (hb hby d_method_3_43) (q := 44) rfl rfl ?_
            refine castGo (g' := mkF m 44 #[.val (.int c0)] [(.int (low c0))]) (by rw [(lowB H0 J0 hc8 hc9 hc10)]) ?_
            refine endP X0 hlk (fun h => by rw [hret] at h; cases h) (lastN X0 hx (t := .char) (z' := (low c0)) hret (by simp) (nar_of255 (low_rng H0 J0).1 (low_rng H0 J0).2) (hb hby d_method_3_44)) ?_ (by decide) (by decide)
            rw [e0]
            exact ⟨rfl, N0, rfl⟩
    · refine icN X0 hx (hb hby d_method_3_9) (q := 12) rfl (flt hc7).2.2.1 ?_
      refine iL X0 hx (hb hby d_method_3_12) (q := 13) rfl rfl ?_
      refine bI X0 hx (hb hby d_method_3_13) (q := 15) rfl (z := (32 : Int32)) rfl ?_
      refine g_iadd X0 hx (hb hby d_method_3_15) (q := 16) rfl rfl ?_
      refine g_i2c X0 hx (hb hby d_method_3_16) (q := 17) rfl rfl ?_
      refine castGo (g' := mkF m 17 #[.val (.int c0)] [(.int (low c0))]) (by rw [(lowA H0 J0 hc3 hc7)]) ?_
      refine endP X0 hlk (fun h => by rw [hret] at h; cases h) (lastN X0 hx (t := .char) (z' := (low c0)) hret (by simp) (nar_of255 (low_rng H0 J0).1 (low_rng H0 J0).2) (hb hby d_method_3_17)) ?_ (by decide) (by decide)
      rw [e0]
      exact ⟨rfl, N0, rfl⟩
theorem d_jdk_116m20_0 : decode jdk_116_method_20_code 0 = .ok (.iload_n 1, 1) := by decide +kernel
theorem d_jdk_116m20_1 : decode jdk_116_method_20_code 1 = .ok (.bipush 65, 2) := by decide +kernel
theorem d_jdk_116m20_3 : decode jdk_116_method_20_code 3 = .ok (.if_icmp .ge 5, 3) := by decide +kernel
theorem d_jdk_116m20_6 : decode jdk_116_method_20_code 6 = .ok (.iload_n 1, 1) := by decide +kernel
theorem d_jdk_116m20_7 : decode jdk_116_method_20_code 7 = .ok (.ireturn, 1) := by decide +kernel
theorem d_jdk_116m20_8 : decode jdk_116_method_20_code 8 = .ok (.iload_n 1, 1) := by decide +kernel
theorem d_jdk_116m20_9 : decode jdk_116_method_20_code 9 = .ok (.bipush 32, 2) := by decide +kernel
theorem d_jdk_116m20_11 : decode jdk_116_method_20_code 11 = .ok (.ior, 1) := by decide +kernel
theorem d_jdk_116m20_12 : decode jdk_116_method_20_code 12 = .ok (.istore_n 2, 1) := by decide +kernel
theorem d_jdk_116m20_13 : decode jdk_116_method_20_code 13 = .ok (.iload_n 2, 1) := by decide +kernel
theorem d_jdk_116m20_14 : decode jdk_116_method_20_code 14 = .ok (.bipush 122, 2) := by decide +kernel
theorem d_jdk_116m20_16 : decode jdk_116_method_20_code 16 = .ok (.if_icmp .le 24, 3) := by decide +kernel
theorem d_jdk_116m20_19 : decode jdk_116_method_20_code 19 = .ok (.iload_n 2, 1) := by decide +kernel
theorem d_jdk_116m20_20 : decode jdk_116_method_20_code 20 = .ok (.sipush 224, 3) := by decide +kernel
theorem d_jdk_116m20_23 : decode jdk_116_method_20_code 23 = .ok (.if_icmp .lt 19, 3) := by decide +kernel
theorem d_jdk_116m20_42 : decode jdk_116_method_20_code 42 = .ok (.iload_n 1, 1) := by decide +kernel
theorem d_jdk_116m20_43 : decode jdk_116_method_20_code 43 = .ok (.ireturn, 1) := by decide +kernel
theorem d_jdk_116m20_26 : decode jdk_116_method_20_code 26 = .ok (.iload_n 2, 1) := by decide +kernel
theorem d_jdk_116m20_27 : decode jdk_116_method_20_code 27 = .ok (.sipush 254, 3) := by decide +kernel
theorem d_jdk_116m20_30 : decode jdk_116_method_20_code 30 = .ok (.if_icmp .gt 12, 3) := by decide +kernel
theorem d_jdk_116m20_33 : decode jdk_116_method_20_code 33 = .ok (.iload_n 2, 1) := by decide +kernel
theorem d_jdk_116m20_34 : decode jdk_116_method_20_code 34 = .ok (.sipush 247, 3) := by decide +kernel
theorem d_jdk_116m20_37 : decode jdk_116_method_20_code 37 = .ok (.if_icmp .eq 5, 3) := by decide +kernel
theorem d_jdk_116m20_40 : decode jdk_116_method_20_code 40 = .ok (.iload_n 2, 1) := by decide +kernel
theorem d_jdk_116m20_41 : decode jdk_116_method_20_code 41 = .ok (.ireturn, 1) := by decide +kernel
def Q_cdl (Z : State) (zC : Int32) (vF : Value) (aI : Addr) (aR : Addr) (a1 : Addr) (c0 : Int32) (h0 : Heap) (v : Option Value) (h : Heap) (L : List Loc) : Prop := v = some (.int (low c0)) ∧ Fr Z.heap.size L ∧ h = h0
theorem pn1 : plainName "java/lang/CharacterDataLatin1" = true := by first | (simp [plainName, overriddenIn]; done) | decide +kernel
theorem rm_cdl (l : Launch) (Z : State) (a0 : Array Value) (hw : HW a0 Z) (zC : Int32) (SC : tSC Z zC) (PC : ¬ zC = (0 : Int32)) (vF : Value) (rF : vF = .null ∨ ∃ a, vF = .ref a) (SF : tSF Z vF) (aI : Addr) (SI : tSI Z aI) (aR : Addr) (SR : tSR Z aR) (a1 : Addr) (c0 : Int32) (h0 : Heap) (O0 : Old Z Z.heap.size h0) (H0 : (¬ (c0 < (0 : Int32)))) (J0 : (¬ ((255 : Int32) < c0))) :
    Con l Z (⟨"java/lang/CharacterDataLatin1", "toLowerCase", "(I)I"⟩ : MethodName) jdk_116_method_20_code 3 (some .int) ({ frames := 0, cells := 0, slots := 0, locals := 0 } : Room) #[(.ref a1), (.int c0)] h0 (Q_cdl Z zC vF aI aR a1 c0 h0) := by
  refine Con.intro (plainFor_of_name pn1) ?_
  intro p e s m below meth c T0 X0 hx hby hml hown0 hnm hret hlk hZ0 e0
  have N0 := Fr.nil Z.heap.size
  refine castGo (g' := mkF m 0 #[.val (.ref a1), .val (.int c0), .unset] []) (by first | rfl | (simp [entryFrame, mkF, argsToLocals, Value.category]; done)) ?_
  show Go _ _ _ _ (T0.setTop (mkF m 0 #[.val (.ref a1), .val (.int c0), .unset] []))
  refine iL X0 hx (hb hby d_jdk_116m20_0) (q := 1) rfl rfl ?_
  refine bI X0 hx (hb hby d_jdk_116m20_1) (q := 3) rfl (z := (65 : Int32)) rfl ?_
  by_cases hc11 : c0 < (65 : Int32)
  · refine icN X0 hx (hb hby d_jdk_116m20_3) (q := 6) rfl (tlt hc11).2.1 ?_
    refine iL X0 hx (hb hby d_jdk_116m20_6) (q := 7) rfl rfl ?_
    refine castGo (g' := mkF m 7 #[.val (.ref a1), .val (.int c0), .unset] [(.int (low c0))]) (by rw [(lowC1 H0 J0 hc11)]) ?_
    refine endP X0 hlk (fun h => by rw [hret] at h; cases h) (lastI X0 hx hret (hb hby d_jdk_116m20_7)) ?_ (by decide) (by decide)
    rw [e0]
    exact ⟨rfl, N0, rfl⟩
  · refine icY X0 hx (hb hby d_jdk_116m20_3) (q := 8) (by decide) (by decide) (flt hc11).2.1 ?_
    refine iL X0 hx (hb hby d_jdk_116m20_8) (q := 9) rfl rfl ?_
    refine bI X0 hx (hb hby d_jdk_116m20_9) (q := 11) rfl (z := (32 : Int32)) rfl ?_
    refine g_ior X0 hx (hb hby d_jdk_116m20_11) (q := 12) rfl rfl ?_
    refine sI X0 hx (hb hby d_jdk_116m20_12) (q := 13) rfl (Ls' := #[.val (.ref a1), .val (.int c0), .val (.int (c0 ||| (32 : Int32)))]) rfl ?_
    refine iL X0 hx (hb hby d_jdk_116m20_13) (q := 14) rfl rfl ?_
    refine bI X0 hx (hb hby d_jdk_116m20_14) (q := 16) rfl (z := (122 : Int32)) rfl ?_
    by_cases hc12 : (122 : Int32) < (c0 ||| (32 : Int32))
    · refine icN X0 hx (hb hby d_jdk_116m20_16) (q := 19) rfl (tlt hc12).2.2.2 ?_
      refine iL X0 hx (hb hby d_jdk_116m20_19) (q := 20) rfl rfl ?_
      refine pI X0 hx (hb hby d_jdk_116m20_20) (q := 23) rfl (z := (224 : Int32)) rfl ?_
      by_cases hc13 : (c0 ||| (32 : Int32)) < (224 : Int32)
      · refine icY X0 hx (hb hby d_jdk_116m20_23) (q := 42) (by decide) (by decide) (tlt hc13).1 ?_
        refine iL X0 hx (hb hby d_jdk_116m20_42) (q := 43) rfl rfl ?_
        refine castGo (g' := mkF m 43 #[.val (.ref a1), .val (.int c0), .val (.int (c0 ||| (32 : Int32)))] [(.int (low c0))]) (by rw [(lowF H0 J0 hc11 hc12 hc13)]) ?_
        refine endP X0 hlk (fun h => by rw [hret] at h; cases h) (lastI X0 hx hret (hb hby d_jdk_116m20_43)) ?_ (by decide) (by decide)
        rw [e0]
        exact ⟨rfl, N0, rfl⟩
      · refine icN X0 hx (hb hby d_jdk_116m20_23) (q := 26) rfl (flt hc13).1 ?_
        refine iL X0 hx (hb hby d_jdk_116m20_26) (q := 27) rfl rfl ?_
        refine pI X0 hx (hb hby d_jdk_116m20_27) (q := 30) rfl (z := (254 : Int32)) rfl ?_
        by_cases hc14 : (254 : Int32) < (c0 ||| (32 : Int32))
        · refine icY X0 hx (hb hby d_jdk_116m20_30) (q := 42) (by decide) (by decide) (tlt hc14).2.2.1 ?_
          refine iL X0 hx (hb hby d_jdk_116m20_42) (q := 43) rfl rfl ?_
          refine castGo (g' := mkF m 43 #[.val (.ref a1), .val (.int c0), .val (.int (c0 ||| (32 : Int32)))] [(.int (low c0))]) (by rw [(lowG H0 J0 hc11 hc14)]) ?_
          refine endP X0 hlk (fun h => by rw [hret] at h; cases h) (lastI X0 hx hret (hb hby d_jdk_116m20_43)) ?_ (by decide) (by decide)
          rw [e0]
          exact ⟨rfl, N0, rfl⟩
        · refine icN X0 hx (hb hby d_jdk_116m20_30) (q := 33) rfl (flt hc14).2.2.1 ?_
          refine iL X0 hx (hb hby d_jdk_116m20_33) (q := 34) rfl rfl ?_
          refine pI X0 hx (hb hby d_jdk_116m20_34) (q := 37) rfl (z := (247 : Int32)) rfl ?_
          by_cases hc15 : (c0 ||| (32 : Int32)) = (247 : Int32)
          · refine icY X0 hx (hb hby d_jdk_116m20_37) (q := 42) (by decide) (by decide) (teq hc15).1 ?_
            refine iL X0 hx (hb hby d_jdk_116m20_42) (q := 43) rfl rfl ?_
            refine castGo (g' := mkF m 43 #[.val (.ref a1), .val (.int c0), .val (.int (c0 ||| (32 : Int32)))] [(.int (low c0))]) (by rw [(lowH H0 J0 hc11 hc15)]) ?_
            refine endP X0 hlk (fun h => by rw [hret] at h; cases h) (lastI X0 hx hret (hb hby d_jdk_116m20_43)) ?_ (by decide) (by decide)
            rw [e0]
            exact ⟨rfl, N0, rfl⟩
          · refine icN X0 hx (hb hby d_jdk_116m20_37) (q := 40) rfl (feq hc15).1 ?_
            refine iL X0 hx (hb hby d_jdk_116m20_40) (q := 41) rfl rfl ?_
            refine castGo (g' := mkF m 41 #[.val (.ref a1), .val (.int c0), .val (.int (c0 ||| (32 : Int32)))] [(.int (low c0))]) (by rw [(lowE H0 J0 hc11 hc12 hc13 hc14 hc15)]) ?_
            refine endP X0 hlk (fun h => by rw [hret] at h; cases h) (lastI X0 hx hret (hb hby d_jdk_116m20_41)) ?_ (by decide) (by decide)
            rw [e0]
            exact ⟨rfl, N0, rfl⟩
    · refine icY X0 hx (hb hby d_jdk_116m20_16) (q := 40) (by decide) (by decide) (flt hc12).2.2.2 ?_
      refine iL X0 hx (hb hby d_jdk_116m20_40) (q := 41) rfl rfl ?_
      refine castGo (g' := mkF m 41 #[.val (.ref a1), .val (.int c0), .val (.int (c0 ||| (32 : Int32)))] [(.int (low c0))]) (by rw [(lowD H0 J0 hc11 hc12)]) ?_
      refine endP X0 hlk (fun h => by rw [hret] at h; cases h) (lastI X0 hx hret (hb hby d_jdk_116m20_41)) ?_ (by decide) (by decide)
      rw [e0]
      exact ⟨rfl, N0, rfl⟩
theorem d_jdk_43m4_0 : decode jdk_43_method_4_code 0 = .ok (.iload_n 0, 1) := by decide +kernel
theorem d_jdk_43m4_1 : decode jdk_43_method_4_code 1 = .ok (.ifCond .lt 14, 3) := by decide +kernel
theorem d_jdk_43m4_4 : decode jdk_43_method_4_code 4 = .ok (.iload_n 0, 1) := by decide +kernel
theorem d_jdk_43m4_5 : decode jdk_43_method_4_code 5 = .ok (.sipush 255, 3) := by decide +kernel
theorem d_jdk_43m4_8 : decode jdk_43_method_4_code 8 = .ok (.if_icmp .gt 7, 3) := by decide +kernel
theorem d_jdk_43m4_11 : decode jdk_43_method_4_code 11 = .ok (.iconst 1, 1) := by decide +kernel
theorem d_jdk_43m4_12 : decode jdk_43_method_4_code 12 = .ok (.goto 4, 3) := by decide +kernel
theorem d_jdk_43m4_16 : decode jdk_43_method_4_code 16 = .ok (.ireturn, 1) := by decide +kernel
def Q_cei (Z : State) (zC : Int32) (vF : Value) (aI : Addr) (aR : Addr) (c0 : Int32) (h0 : Heap) (v : Option Value) (h : Heap) (L : List Loc) : Prop := v = some (iv 1) ∧ Fr Z.heap.size L ∧ h = h0
theorem pn2 : plainName "java/lang/StringLatin1" = true := by first | (simp [plainName, overriddenIn]; done) | decide +kernel
theorem rm_cei (l : Launch) (Z : State) (a0 : Array Value) (hw : HW a0 Z) (zC : Int32) (SC : tSC Z zC) (PC : ¬ zC = (0 : Int32)) (vF : Value) (rF : vF = .null ∨ ∃ a, vF = .ref a) (SF : tSF Z vF) (aI : Addr) (SI : tSI Z aI) (aR : Addr) (SR : tSR Z aR) (c0 : Int32) (h0 : Heap) (O0 : Old Z Z.heap.size h0) (H0 : (¬ (c0 < (0 : Int32)))) (J0 : (¬ ((255 : Int32) < c0))) :
    Con l Z (⟨"java/lang/StringLatin1", "canEncode", "(I)Z"⟩ : MethodName) jdk_43_method_4_code 1 (some .boolean) ({ frames := 0, cells := 0, slots := 0, locals := 0 } : Room) #[(.int c0)] h0 (Q_cei Z zC vF aI aR c0 h0) := by
  refine Con.intro (plainFor_of_name pn2) ?_
  intro p e s m below meth c T0 X0 hx hby hml hown0 hnm hret hlk hZ0 e0
  have N0 := Fr.nil Z.heap.size
  refine castGo (g' := mkF m 0 #[.val (.int c0)] []) (by first | rfl | (simp [entryFrame, mkF, argsToLocals, Value.category]; done)) ?_
  show Go _ _ _ _ (T0.setTop (mkF m 0 #[.val (.int c0)] []))
  refine iL X0 hx (hb hby d_jdk_43m4_0) (q := 1) rfl rfl ?_
  refine ifN X0 hx (hb hby d_jdk_43m4_1) (q := 4) rfl ((if0 _ _).trans (flt H0).1) ?_
  refine iL X0 hx (hb hby d_jdk_43m4_4) (q := 5) rfl rfl ?_
  refine pI X0 hx (hb hby d_jdk_43m4_5) (q := 8) rfl (z := (255 : Int32)) rfl ?_
  refine icN X0 hx (hb hby d_jdk_43m4_8) (q := 11) rfl (flt J0).2.2.1 ?_
  refine cI X0 hx (hb hby d_jdk_43m4_11) (q := 12) rfl (z := (1 : Int32)) rfl ?_
  refine g_goto X0 hx (hb hby d_jdk_43m4_12) (q := 16) (by decide) (by decide) ?_
  refine endP X0 hlk (fun h => by rw [hret] at h; cases h) (lastN X0 hx (t := .boolean) (z' := (1 : Int32)) hret (by simp) (by decide) (hb hby d_jdk_43m4_16)) ?_ (by decide) (by decide)
  rw [e0]
  exact ⟨rfl, N0, rfl⟩
def Q_cei59 (Z : State) (zC : Int32) (vF : Value) (aI : Addr) (aR : Addr) (h0 : Heap) (v : Option Value) (h : Heap) (L : List Loc) : Prop := v = some (iv 1) ∧ Fr Z.heap.size L ∧ h = h0
theorem rm_cei59 (l : Launch) (Z : State) (a0 : Array Value) (hw : HW a0 Z) (zC : Int32) (SC : tSC Z zC) (PC : ¬ zC = (0 : Int32)) (vF : Value) (rF : vF = .null ∨ ∃ a, vF = .ref a) (SF : tSF Z vF) (aI : Addr) (SI : tSI Z aI) (aR : Addr) (SR : tSR Z aR)  (h0 : Heap) (O0 : Old Z Z.heap.size h0)  :
    Con l Z (⟨"java/lang/StringLatin1", "canEncode", "(I)Z"⟩ : MethodName) jdk_43_method_4_code 1 (some .boolean) ({ frames := 0, cells := 0, slots := 0, locals := 0 } : Room) #[(iv 59)] h0 (Q_cei59 Z zC vF aI aR h0) := by
  refine Con.intro (plainFor_of_name pn2) ?_
  intro p e s m below meth c T0 X0 hx hby hml hown0 hnm hret hlk hZ0 e0
  have N0 := Fr.nil Z.heap.size
  refine castGo (g' := mkF m 0 #[.val (iv 59)] []) (by first | rfl | (simp [entryFrame, mkF, argsToLocals, Value.category]; done)) ?_
  show Go _ _ _ _ (T0.setTop (mkF m 0 #[.val (iv 59)] []))
  refine iL X0 hx (hb hby d_jdk_43m4_0) (q := 1) rfl rfl ?_
  refine ifN X0 hx (hb hby d_jdk_43m4_1) (q := 4) rfl (by decide) ?_
  refine iL X0 hx (hb hby d_jdk_43m4_4) (q := 5) rfl rfl ?_
  refine pI X0 hx (hb hby d_jdk_43m4_5) (q := 8) rfl (z := (255 : Int32)) rfl ?_
  refine icN X0 hx (hb hby d_jdk_43m4_8) (q := 11) rfl (by decide) ?_
  refine cI X0 hx (hb hby d_jdk_43m4_11) (q := 12) rfl (z := (1 : Int32)) rfl ?_
  refine g_goto X0 hx (hb hby d_jdk_43m4_12) (q := 16) (by decide) (by decide) ?_
  refine endP X0 hlk (fun h => by rw [hret] at h; cases h) (lastN X0 hx (t := .boolean) (z' := (1 : Int32)) hret (by simp) (by decide) (hb hby d_jdk_43m4_16)) ?_ (by decide) (by decide)
  rw [e0]
  exact ⟨rfl, N0, rfl⟩
theorem d_method_4_0 : decode method_4_code 0 = .ok (.aload_n 0, 1) := by decide +kernel
theorem d_method_4_1 : decode method_4_code 1 = .ok (.iconst 0, 1) := by decide +kernel
theorem d_method_4_2 : decode method_4_code 2 = .ok (.caload, 1) := by decide +kernel
theorem d_method_4_3 : decode method_4_code 3 = .ok (.bipush 59, 2) := by decide +kernel
theorem d_method_4_5 : decode method_4_code 5 = .ok (.if_icmp .ne 5, 3) := by decide +kernel
theorem d_method_4_8 : decode method_4_code 8 = .ok (.iconst 0, 1) := by decide +kernel
theorem d_method_4_9 : decode method_4_code 9 = .ok (.ireturn, 1) := by decide +kernel
theorem d_method_4_10 : decode method_4_code 10 = .ok (.aload_n 0, 1) := by decide +kernel
theorem d_method_4_11 : decode method_4_code 11 = .ok (.iconst 1, 1) := by decide +kernel
theorem d_method_4_12 : decode method_4_code 12 = .ok (.caload, 1) := by decide +kernel
theorem d_method_4_13 : decode method_4_code 13 = .ok (.bipush 59, 2) := by decide +kernel
theorem d_method_4_15 : decode method_4_code 15 = .ok (.if_icmp .ne 5, 3) := by decide +kernel
theorem d_method_4_18 : decode method_4_code 18 = .ok (.iconst 1, 1) := by decide +kernel
theorem d_method_4_19 : decode method_4_code 19 = .ok (.ireturn, 1) := by decide +kernel
theorem d_method_4_20 : decode method_4_code 20 = .ok (.aload_n 0, 1) := by decide +kernel
theorem d_method_4_21 : decode method_4_code 21 = .ok (.iconst 2, 1) := by decide +kernel
theorem d_method_4_22 : decode method_4_code 22 = .ok (.caload, 1) := by decide +kernel
theorem d_method_4_23 : decode method_4_code 23 = .ok (.bipush 59, 2) := by decide +kernel
theorem d_method_4_25 : decode method_4_code 25 = .ok (.if_icmp .ne 5, 3) := by decide +kernel
theorem d_method_4_28 : decode method_4_code 28 = .ok (.iconst 2, 1) := by decide +kernel
theorem d_method_4_29 : decode method_4_code 29 = .ok (.ireturn, 1) := by decide +kernel
theorem d_method_4_30 : decode method_4_code 30 = .ok (.aload_n 0, 1) := by decide +kernel
theorem d_method_4_31 : decode method_4_code 31 = .ok (.iconst 3, 1) := by decide +kernel
theorem d_method_4_32 : decode method_4_code 32 = .ok (.caload, 1) := by decide +kernel
theorem d_method_4_33 : decode method_4_code 33 = .ok (.bipush 59, 2) := by decide +kernel
theorem d_method_4_35 : decode method_4_code 35 = .ok (.if_icmp .ne 5, 3) := by decide +kernel
theorem d_method_4_38 : decode method_4_code 38 = .ok (.iconst 3, 1) := by decide +kernel
theorem d_method_4_39 : decode method_4_code 39 = .ok (.ireturn, 1) := by decide +kernel
theorem d_method_4_40 : decode method_4_code 40 = .ok (.aload_n 0, 1) := by decide +kernel
theorem d_method_4_41 : decode method_4_code 41 = .ok (.iconst 4, 1) := by decide +kernel
theorem d_method_4_42 : decode method_4_code 42 = .ok (.caload, 1) := by decide +kernel
theorem d_method_4_43 : decode method_4_code 43 = .ok (.bipush 59, 2) := by decide +kernel
theorem d_method_4_45 : decode method_4_code 45 = .ok (.if_icmp .ne 5, 3) := by decide +kernel
theorem d_method_4_48 : decode method_4_code 48 = .ok (.iconst 4, 1) := by decide +kernel
theorem d_method_4_49 : decode method_4_code 49 = .ok (.ireturn, 1) := by decide +kernel
theorem d_method_4_50 : decode method_4_code 50 = .ok (.iconst 5, 1) := by decide +kernel
theorem d_method_4_51 : decode method_4_code 51 = .ok (.ireturn, 1) := by decide +kernel
def Q_fsemi (Z : State) (zC : Int32) (vF : Value) (aI : Addr) (aR : Addr) (s1 : Addr) (ks : ClassId) (c0 : Int32) (c1 : Int32) (c2 : Int32) (c3 : Int32) (c4 : Int32) (h0 : Heap) (v : Option Value) (h : Heap) (L : List Loc) : Prop := v = some (.int (fse c0 c1 c2 c3 c4)) ∧ Fr Z.heap.size L ∧ h = h0
theorem rm_fsemi (l : Launch) (Z : State) (a0 : Array Value) (hw : HW a0 Z) (zC : Int32) (SC : tSC Z zC) (PC : ¬ zC = (0 : Int32)) (vF : Value) (rF : vF = .null ∨ ∃ a, vF = .ref a) (SF : tSF Z vF) (aI : Addr) (SI : tSI Z aI) (aR : Addr) (SR : tSR Z aR) (s1 : Addr) (ks : ClassId) (c0 : Int32) (c1 : Int32) (c2 : Int32) (c3 : Int32) (c4 : Int32) (h0 : Heap) (O0 : Old Z Z.heap.size h0) (PS : Arv Z h0 s1 ks .char (5 : Int32) [(.int c0), (.int c1), (.int c2), (.int c3), (.int c4)] (.int 0)) :
    Con l Z (⟨sT1, "firstSemi", "([C)I"⟩ : MethodName) method_4_code 1 (some .int) ({ frames := 0, cells := 0, slots := 0, locals := 0 } : Room) #[(.ref s1)] h0 (Q_fsemi Z zC vF aI aR s1 ks c0 c1 c2 c3 c4 h0) := by
  refine Con.intro (plainFor_of_name pn0) ?_
  intro p e s m below meth c T0 X0 hx hby hml hown0 hnm hret hlk hZ0 e0
  have N0 := Fr.nil Z.heap.size
  refine castGo (g' := mkF m 0 #[.val (.ref s1)] []) (by first | rfl | (simp [entryFrame, mkF, argsToLocals, Value.category]; done)) ?_
  show Go _ _ _ _ (T0.setTop (mkF m 0 #[.val (.ref s1)] []))
  refine aL X0 hx (hb hby d_method_4_0) (q := 1) rfl rfl rfl ?_
  refine cI X0 hx (hb hby d_method_4_1) (q := 2) rfl (z := (0 : Int32)) rfl ?_
  refine g_ldC X0 hx hZ0 PS (i := 0) (by decide) (by decide) (by decide) (v := (.int c0)) rfl e0 (hb hby d_method_4_2) (q := 3) rfl ?_
  refine bI X0 hx (hb hby d_method_4_3) (q := 5) rfl (z := (59 : Int32)) rfl ?_
  by_cases hc16 : c0 = (59 : Int32)
  · refine icN X0 hx (hb hby d_method_4_5) (q := 8) rfl (teq hc16).2 ?_
    refine cI X0 hx (hb hby d_method_4_8) (q := 9) rfl (z := (0 : Int32)) rfl ?_
    refine castGo (g' := mkF m 9 #[.val (.ref s1)] [(.int (fse c0 c1 c2 c3 c4))]) (by rw [(show (fse c0 c1 c2 c3 c4) = (0 : Int32) from (if_pos hc16))]) ?_
    refine endP X0 hlk (fun h => by rw [hret] at h; cases h) (lastI X0 hx hret (hb hby d_method_4_9)) ?_ (by decide) (by decide)
    rw [e0]
    exact ⟨rfl, N0, rfl⟩
  · refine icY X0 hx (hb hby d_method_4_5) (q := 10) (by decide) (by decide) (feq hc16).2 ?_
    refine aL X0 hx (hb hby d_method_4_10) (q := 11) rfl rfl rfl ?_
    refine cI X0 hx (hb hby d_method_4_11) (q := 12) rfl (z := (1 : Int32)) rfl ?_
    refine g_ldC X0 hx hZ0 PS (i := 1) (by decide) (by decide) (by decide) (v := (.int c1)) rfl e0 (hb hby d_method_4_12) (q := 13) rfl ?_
    refine bI X0 hx (hb hby d_method_4_13) (q := 15) rfl (z := (59 : Int32)) rfl ?_
    by_cases hc17 : c1 = (59 : Int32)
    · refine icN X0 hx (hb hby d_method_4_15) (q := 18) rfl (teq hc17).2 ?_
      refine cI X0 hx (hb hby d_method_4_18) (q := 19) rfl (z := (1 : Int32)) rfl ?_
      refine castGo (g' := mkF m 19 #[.val (.ref s1)] [(.int (fse c0 c1 c2 c3 c4))]) (by rw [(show (fse c0 c1 c2 c3 c4) = (1 : Int32) from ((if_neg hc16).trans (if_pos hc17)))]) ?_
      refine endP X0 hlk (fun h => by rw [hret] at h; cases h) (lastI X0 hx hret (hb hby d_method_4_19)) ?_ (by decide) (by decide)
      rw [e0]
      exact ⟨rfl, N0, rfl⟩
    · refine icY X0 hx (hb hby d_method_4_15) (q := 20) (by decide) (by decide) (feq hc17).2 ?_
      refine aL X0 hx (hb hby d_method_4_20) (q := 21) rfl rfl rfl ?_
      refine cI X0 hx (hb hby d_method_4_21) (q := 22) rfl (z := (2 : Int32)) rfl ?_
      refine g_ldC X0 hx hZ0 PS (i := 2) (by decide) (by decide) (by decide) (v := (.int c2)) rfl e0 (hb hby d_method_4_22) (q := 23) rfl ?_
      refine bI X0 hx (hb hby d_method_4_23) (q := 25) rfl (z := (59 : Int32)) rfl ?_
      by_cases hc18 : c2 = (59 : Int32)
      · refine icN X0 hx (hb hby d_method_4_25) (q := 28) rfl (teq hc18).2 ?_
        refine cI X0 hx (hb hby d_method_4_28) (q := 29) rfl (z := (2 : Int32)) rfl ?_
        refine castGo (g' := mkF m 29 #[.val (.ref s1)] [(.int (fse c0 c1 c2 c3 c4))]) (by rw [(show (fse c0 c1 c2 c3 c4) = (2 : Int32) from ((if_neg hc16).trans ((if_neg hc17).trans (if_pos hc18))))]) ?_
        refine endP X0 hlk (fun h => by rw [hret] at h; cases h) (lastI X0 hx hret (hb hby d_method_4_29)) ?_ (by decide) (by decide)
        rw [e0]
        exact ⟨rfl, N0, rfl⟩
      · refine icY X0 hx (hb hby d_method_4_25) (q := 30) (by decide) (by decide) (feq hc18).2 ?_
        refine aL X0 hx (hb hby d_method_4_30) (q := 31) rfl rfl rfl ?_
        refine cI X0 hx (hb hby d_method_4_31) (q := 32) rfl (z := (3 : Int32)) rfl ?_
        refine g_ldC X0 hx hZ0 PS (i := 3) (by decide) (by decide) (by decide) (v := (.int c3)) rfl e0 (hb hby d_method_4_32) (q := 33) rfl ?_
        refine bI X0 hx (hb hby d_method_4_33) (q := 35) rfl (z := (59 : Int32)) rfl ?_
        by_cases hc19 : c3 = (59 : Int32)
        · refine icN X0 hx (hb hby d_method_4_35) (q := 38) rfl (teq hc19).2 ?_
          refine cI X0 hx (hb hby d_method_4_38) (q := 39) rfl (z := (3 : Int32)) rfl ?_
          refine castGo (g' := mkF m 39 #[.val (.ref s1)] [(.int (fse c0 c1 c2 c3 c4))]) (by rw [(show (fse c0 c1 c2 c3 c4) = (3 : Int32) from ((if_neg hc16).trans ((if_neg hc17).trans ((if_neg hc18).trans (if_pos hc19)))))]) ?_
          refine endP X0 hlk (fun h => by rw [hret] at h; cases h) (lastI X0 hx hret (hb hby d_method_4_39)) ?_ (by decide) (by decide)
          rw [e0]
          exact ⟨rfl, N0, rfl⟩
        · refine icY X0 hx (hb hby d_method_4_35) (q := 40) (by decide) (by decide) (feq hc19).2 ?_
          refine aL X0 hx (hb hby d_method_4_40) (q := 41) rfl rfl rfl ?_
          refine cI X0 hx (hb hby d_method_4_41) (q := 42) rfl (z := (4 : Int32)) rfl ?_
          refine g_ldC X0 hx hZ0 PS (i := 4) (by decide) (by decide) (by decide) (v := (.int c4)) rfl e0 (hb hby d_method_4_42) (q := 43) rfl ?_
          refine bI X0 hx (hb hby d_method_4_43) (q := 45) rfl (z := (59 : Int32)) rfl ?_
          by_cases hc20 : c4 = (59 : Int32)
          · refine icN X0 hx (hb hby d_method_4_45) (q := 48) rfl (teq hc20).2 ?_
            refine cI X0 hx (hb hby d_method_4_48) (q := 49) rfl (z := (4 : Int32)) rfl ?_
            refine castGo (g' := mkF m 49 #[.val (.ref s1)] [(.int (fse c0 c1 c2 c3 c4))]) (by rw [(show (fse c0 c1 c2 c3 c4) = (4 : Int32) from ((if_neg hc16).trans ((if_neg hc17).trans ((if_neg hc18).trans ((if_neg hc19).trans (if_pos hc20))))))]) ?_
            refine endP X0 hlk (fun h => by rw [hret] at h; cases h) (lastI X0 hx hret (hb hby d_method_4_49)) ?_ (by decide) (by decide)
            rw [e0]
            exact ⟨rfl, N0, rfl⟩
          · refine icY X0 hx (hb hby d_method_4_45) (q := 50) (by decide) (by decide) (feq hc20).2 ?_
            refine cI X0 hx (hb hby d_method_4_50) (q := 51) rfl (z := (5 : Int32)) rfl ?_
            refine castGo (g' := mkF m 51 #[.val (.ref s1)] [(.int (fse c0 c1 c2 c3 c4))]) (by rw [(show (fse c0 c1 c2 c3 c4) = (5 : Int32) from ((if_neg hc16).trans ((if_neg hc17).trans ((if_neg hc18).trans ((if_neg hc19).trans (if_neg hc20))))))]) ?_
            refine endP X0 hlk (fun h => by rw [hret] at h; cases h) (lastI X0 hx hret (hb hby d_method_4_51)) ?_ (by decide) (by decide)
            rw [e0]
            exact ⟨rfl, N0, rfl⟩
theorem d_method_5_0 : decode method_5_code 0 = .ok (.iconst 0, 1) := by decide +kernel
theorem d_method_5_1 : decode method_5_code 1 = .ok (.iload_n 1, 1) := by decide +kernel
theorem d_method_5_2 : decode method_5_code 2 = .ok (.if_icmp .ge 13, 3) := by decide +kernel
theorem d_method_5_15 : decode method_5_code 15 = .ok (.iconst 1, 1) := by decide +kernel
theorem d_method_5_16 : decode method_5_code 16 = .ok (.iload_n 1, 1) := by decide +kernel
theorem d_method_5_17 : decode method_5_code 17 = .ok (.if_icmp .ge 13, 3) := by decide +kernel
theorem d_method_5_30 : decode method_5_code 30 = .ok (.iconst 2, 1) := by decide +kernel
theorem d_method_5_31 : decode method_5_code 31 = .ok (.iload_n 1, 1) := by decide +kernel
theorem d_method_5_32 : decode method_5_code 32 = .ok (.if_icmp .ge 13, 3) := by decide +kernel
theorem d_method_5_45 : decode method_5_code 45 = .ok (.iconst 3, 1) := by decide +kernel
theorem d_method_5_46 : decode method_5_code 46 = .ok (.iload_n 1, 1) := by decide +kernel
theorem d_method_5_47 : decode method_5_code 47 = .ok (.if_icmp .ge 13, 3) := by decide +kernel
theorem d_method_5_60 : decode method_5_code 60 = .ok (.iconst 4, 1) := by decide +kernel
theorem d_method_5_61 : decode method_5_code 61 = .ok (.iload_n 1, 1) := by decide +kernel
theorem d_method_5_62 : decode method_5_code 62 = .ok (.if_icmp .ge 13, 3) := by decide +kernel
theorem d_method_5_75 : decode method_5_code 75 = .ok (.iload_n 1, 1) := by decide +kernel
theorem d_method_5_76 : decode method_5_code 76 = .ok (.ireturn, 1) := by decide +kernel
theorem d_method_5_5 : decode method_5_code 5 = .ok (.aload_n 0, 1) := by decide +kernel
theorem d_method_5_6 : decode method_5_code 6 = .ok (.iconst 0, 1) := by decide +kernel
theorem d_method_5_7 : decode method_5_code 7 = .ok (.caload, 1) := by decide +kernel
theorem d_method_5_8 : decode method_5_code 8 = .ok (.bipush 32, 2) := by decide +kernel
theorem d_method_5_10 : decode method_5_code 10 = .ok (.if_icmp .le 5, 3) := by decide +kernel
theorem d_method_5_13 : decode method_5_code 13 = .ok (.iconst 0, 1) := by decide +kernel
theorem d_method_5_14 : decode method_5_code 14 = .ok (.ireturn, 1) := by decide +kernel
theorem d_method_5_20 : decode method_5_code 20 = .ok (.aload_n 0, 1) := by decide +kernel
theorem d_method_5_21 : decode method_5_code 21 = .ok (.iconst 1, 1) := by decide +kernel
theorem d_method_5_22 : decode method_5_code 22 = .ok (.caload, 1) := by decide +kernel
theorem d_method_5_23 : decode method_5_code 23 = .ok (.bipush 32, 2) := by decide +kernel
theorem d_method_5_25 : decode method_5_code 25 = .ok (.if_icmp .le 5, 3) := by decide +kernel
theorem d_method_5_28 : decode method_5_code 28 = .ok (.iconst 1, 1) := by decide +kernel
theorem d_method_5_29 : decode method_5_code 29 = .ok (.ireturn, 1) := by decide +kernel
theorem d_method_5_35 : decode method_5_code 35 = .ok (.aload_n 0, 1) := by decide +kernel
theorem d_method_5_36 : decode method_5_code 36 = .ok (.iconst 2, 1) := by decide +kernel
theorem d_method_5_37 : decode method_5_code 37 = .ok (.caload, 1) := by decide +kernel
theorem d_method_5_38 : decode method_5_code 38 = .ok (.bipush 32, 2) := by decide +kernel
theorem d_method_5_40 : decode method_5_code 40 = .ok (.if_icmp .le 5, 3) := by decide +kernel
theorem d_method_5_43 : decode method_5_code 43 = .ok (.iconst 2, 1) := by decide +kernel
theorem d_method_5_44 : decode method_5_code 44 = .ok (.ireturn, 1) := by decide +kernel
theorem d_method_5_50 : decode method_5_code 50 = .ok (.aload_n 0, 1) := by decide +kernel
theorem d_method_5_51 : decode method_5_code 51 = .ok (.iconst 3, 1) := by decide +kernel
theorem d_method_5_52 : decode method_5_code 52 = .ok (.caload, 1) := by decide +kernel
theorem d_method_5_53 : decode method_5_code 53 = .ok (.bipush 32, 2) := by decide +kernel
theorem d_method_5_55 : decode method_5_code 55 = .ok (.if_icmp .le 5, 3) := by decide +kernel
theorem d_method_5_58 : decode method_5_code 58 = .ok (.iconst 3, 1) := by decide +kernel
theorem d_method_5_59 : decode method_5_code 59 = .ok (.ireturn, 1) := by decide +kernel
theorem d_method_5_65 : decode method_5_code 65 = .ok (.aload_n 0, 1) := by decide +kernel
theorem d_method_5_66 : decode method_5_code 66 = .ok (.iconst 4, 1) := by decide +kernel
theorem d_method_5_67 : decode method_5_code 67 = .ok (.caload, 1) := by decide +kernel
theorem d_method_5_68 : decode method_5_code 68 = .ok (.bipush 32, 2) := by decide +kernel
theorem d_method_5_70 : decode method_5_code 70 = .ok (.if_icmp .le 5, 3) := by decide +kernel
theorem d_method_5_73 : decode method_5_code 73 = .ok (.iconst 4, 1) := by decide +kernel
theorem d_method_5_74 : decode method_5_code 74 = .ok (.ireturn, 1) := by decide +kernel
def Q_fsolid (Z : State) (zC : Int32) (vF : Value) (aI : Addr) (aR : Addr) (s1 : Addr) (ks : ClassId) (c0 : Int32) (c1 : Int32) (c2 : Int32) (c3 : Int32) (c4 : Int32) (fn : Int32) (h0 : Heap) (v : Option Value) (h : Heap) (L : List Loc) : Prop := v = some (.int (fso c0 c1 c2 c3 c4 fn)) ∧ Fr Z.heap.size L ∧ h = h0
theorem rm_fsolid (l : Launch) (Z : State) (a0 : Array Value) (hw : HW a0 Z) (zC : Int32) (SC : tSC Z zC) (PC : ¬ zC = (0 : Int32)) (vF : Value) (rF : vF = .null ∨ ∃ a, vF = .ref a) (SF : tSF Z vF) (aI : Addr) (SI : tSI Z aI) (aR : Addr) (SR : tSR Z aR) (s1 : Addr) (ks : ClassId) (c0 : Int32) (c1 : Int32) (c2 : Int32) (c3 : Int32) (c4 : Int32) (fn : Int32) (h0 : Heap) (O0 : Old Z Z.heap.size h0) (PS : Arv Z h0 s1 ks .char (5 : Int32) [(.int c0), (.int c1), (.int c2), (.int c3), (.int c4)] (.int 0)) (hfn : (fn = (0 : Int32) ∨ fn = (1 : Int32) ∨ fn = (2 : Int32) ∨ fn = (3 : Int32) ∨ fn = (4 : Int32) ∨ fn = (5 : Int32))) :
    Con l Z (⟨sT1, "firstSolid", "([CI)I"⟩ : MethodName) method_5_code 2 (some .int) ({ frames := 0, cells := 0, slots := 0, locals := 0 } : Room) #[(.ref s1), (.int fn)] h0 (Q_fsolid Z zC vF aI aR s1 ks c0 c1 c2 c3 c4 fn h0) := by
  refine Con.intro (plainFor_of_name pn0) ?_
  intro p e s m below meth c T0 X0 hx hby hml hown0 hnm hret hlk hZ0 e0
  have N0 := Fr.nil Z.heap.size
  refine castGo (g' := mkF m 0 #[.val (.ref s1), .val (.int fn)] []) (by first | rfl | (simp [entryFrame, mkF, argsToLocals, Value.category]; done)) ?_
  show Go _ _ _ _ (T0.setTop (mkF m 0 #[.val (.ref s1), .val (.int fn)] []))
  rcases (hfn : fn = (0 : Int32) ∨ fn = (1 : Int32) ∨ fn = (2 : Int32) ∨ fn = (3 : Int32) ∨ fn = (4 : Int32) ∨ fn = (5 : Int32)) with hk21 | hk22 | hk23 | hk24 | hk25 | hk26
  · rw [hk21]
    show Go _ _ _ _ (T0.setTop (mkF m 0 #[.val (.ref s1), .val (iv 0)] []))
    refine cI X0 hx (hb hby d_method_5_0) (q := 1) rfl (z := (0 : Int32)) rfl ?_
    refine iL X0 hx (hb hby d_method_5_1) (q := 2) rfl rfl ?_
    refine icY X0 hx (hb hby d_method_5_2) (q := 15) (by decide) (by decide) (by decide) ?_
    refine cI X0 hx (hb hby d_method_5_15) (q := 16) rfl (z := (1 : Int32)) rfl ?_
    refine iL X0 hx (hb hby d_method_5_16) (q := 17) rfl rfl ?_
    refine icY X0 hx (hb hby d_method_5_17) (q := 30) (by decide) (by decide) (by decide) ?_
    refine cI X0 hx (hb hby d_method_5_30) (q := 31) rfl (z := (2 : Int32)) rfl ?_
    refine iL X0 hx (hb hby d_method_5_31) (q := 32) rfl rfl ?_
    refine icY X0 hx (hb hby d_method_5_32) (q := 45) (by decide) (by decide) (by decide) ?_
    refine cI X0 hx (hb hby d_method_5_45) (q := 46) rfl (z := (3 : Int32)) rfl ?_
    refine iL X0 hx (hb hby d_method_5_46) (q := 47) rfl rfl ?_
    refine icY X0 hx (hb hby d_method_5_47) (q := 60) (by decide) (by decide) (by decide) ?_
    refine cI X0 hx (hb hby d_method_5_60) (q := 61) rfl (z := (4 : Int32)) rfl ?_
    refine iL X0 hx (hb hby d_method_5_61) (q := 62) rfl rfl ?_
    refine icY X0 hx (hb hby d_method_5_62) (q := 75) (by decide) (by decide) (by decide) ?_
    refine iL X0 hx (hb hby d_method_5_75) (q := 76) rfl rfl ?_
    refine castGo (g' := mkF m 76 #[.val (.ref s1), .val (iv 0)] [(.int (fso c0 c1 c2 c3 c4 (0 : Int32)))]) (by rw [(show (fso c0 c1 c2 c3 c4 (0 : Int32)) = (0 : Int32) from ((if_neg (fun q => absurd q.1 (by decide))).trans ((if_neg (fun q => absurd q.1 (by decide))).trans ((if_neg (fun q => absurd q.1 (by decide))).trans ((if_neg (fun q => absurd q.1 (by decide))).trans (if_neg (fun q => absurd q.1 (by decide))))))))]) ?_
    refine endP X0 hlk (fun h => by rw [hret] at h; cases h) (lastI X0 hx hret (hb hby d_method_5_76)) ?_ (by decide) (by decide)
    rw [e0]
    exact ⟨rfl, N0, rfl⟩
  · rw [hk22]
    show Go _ _ _ _ (T0.setTop (mkF m 0 #[.val (.ref s1), .val (iv 1)] []))
    refine cI X0 hx (hb hby d_method_5_0) (q := 1) rfl (z := (0 : Int32)) rfl ?_
    refine iL X0 hx (hb hby d_method_5_1) (q := 2) rfl rfl ?_
    refine icN X0 hx (hb hby d_method_5_2) (q := 5) rfl (by decide) ?_
    refine aL X0 hx (hb hby d_method_5_5) (q := 6) rfl rfl rfl ?_
    refine cI X0 hx (hb hby d_method_5_6) (q := 7) rfl (z := (0 : Int32)) rfl ?_
    refine g_ldC X0 hx hZ0 PS (i := 0) (by decide) (by decide) (by decide) (v := (.int c0)) rfl e0 (hb hby d_method_5_7) (q := 8) rfl ?_
    refine bI X0 hx (hb hby d_method_5_8) (q := 10) rfl (z := (32 : Int32)) rfl ?_
    by_cases hc27 : (32 : Int32) < c0
    · refine icN X0 hx (hb hby d_method_5_10) (q := 13) rfl (tlt hc27).2.2.2 ?_
      refine cI X0 hx (hb hby d_method_5_13) (q := 14) rfl (z := (0 : Int32)) rfl ?_
      refine castGo (g' := mkF m 14 #[.val (.ref s1), .val (iv 1)] [(.int (fso c0 c1 c2 c3 c4 (1 : Int32)))]) (by rw [(show (fso c0 c1 c2 c3 c4 (1 : Int32)) = (0 : Int32) from (if_pos ⟨by decide, hc27⟩))]) ?_
      refine endP X0 hlk (fun h => by rw [hret] at h; cases h) (lastI X0 hx hret (hb hby d_method_5_14)) ?_ (by decide) (by decide)
      rw [e0]
      exact ⟨rfl, N0, rfl⟩
    · refine icY X0 hx (hb hby d_method_5_10) (q := 15) (by decide) (by decide) (flt hc27).2.2.2 ?_
      refine cI X0 hx (hb hby d_method_5_15) (q := 16) rfl (z := (1 : Int32)) rfl ?_
      refine iL X0 hx (hb hby d_method_5_16) (q := 17) rfl rfl ?_
      refine icY X0 hx (hb hby d_method_5_17) (q := 30) (by decide) (by decide) (by decide) ?_
      refine cI X0 hx (hb hby d_method_5_30) (q := 31) rfl (z := (2 : Int32)) rfl ?_
      refine iL X0 hx (hb hby d_method_5_31) (q := 32) rfl rfl ?_
      refine icY X0 hx (hb hby d_method_5_32) (q := 45) (by decide) (by decide) (by decide) ?_
      refine cI X0 hx (hb hby d_method_5_45) (q := 46) rfl (z := (3 : Int32)) rfl ?_
      refine iL X0 hx (hb hby d_method_5_46) (q := 47) rfl rfl ?_
      refine icY X0 hx (hb hby d_method_5_47) (q := 60) (by decide) (by decide) (by decide) ?_
      refine cI X0 hx (hb hby d_method_5_60) (q := 61) rfl (z := (4 : Int32)) rfl ?_
      refine iL X0 hx (hb hby d_method_5_61) (q := 62) rfl rfl ?_
      refine icY X0 hx (hb hby d_method_5_62) (q := 75) (by decide) (by decide) (by decide) ?_
      refine iL X0 hx (hb hby d_method_5_75) (q := 76) rfl rfl ?_
      refine castGo (g' := mkF m 76 #[.val (.ref s1), .val (iv 1)] [(.int (fso c0 c1 c2 c3 c4 (1 : Int32)))]) (by rw [(show (fso c0 c1 c2 c3 c4 (1 : Int32)) = (1 : Int32) from ((if_neg (fun q => hc27 q.2)).trans ((if_neg (fun q => absurd q.1 (by decide))).trans ((if_neg (fun q => absurd q.1 (by decide))).trans ((if_neg (fun q => absurd q.1 (by decide))).trans (if_neg (fun q => absurd q.1 (by decide))))))))]) ?_
      refine endP X0 hlk (fun h => by rw [hret] at h; cases h) (lastI X0 hx hret (hb hby d_method_5_76)) ?_ (by decide) (by decide)
      rw [e0]
      exact ⟨rfl, N0, rfl⟩
  · rw [hk23]
    show Go _ _ _ _ (T0.setTop (mkF m 0 #[.val (.ref s1), .val (iv 2)] []))
    refine cI X0 hx (hb hby d_method_5_0) (q := 1) rfl (z := (0 : Int32)) rfl ?_
    refine iL X0 hx (hb hby d_method_5_1) (q := 2) rfl rfl ?_
    refine icN X0 hx (hb hby d_method_5_2) (q := 5) rfl (by decide) ?_
    refine aL X0 hx (hb hby d_method_5_5) (q := 6) rfl rfl rfl ?_
    refine cI X0 hx (hb hby d_method_5_6) (q := 7) rfl (z := (0 : Int32)) rfl ?_
    refine g_ldC X0 hx hZ0 PS (i := 0) (by decide) (by decide) (by decide) (v := (.int c0)) rfl e0 (hb hby d_method_5_7) (q := 8) rfl ?_
    refine bI X0 hx (hb hby d_method_5_8) (q := 10) rfl (z := (32 : Int32)) rfl ?_
    by_cases hc28 : (32 : Int32) < c0
    · refine icN X0 hx (hb hby d_method_5_10) (q := 13) rfl (tlt hc28).2.2.2 ?_
      refine cI X0 hx (hb hby d_method_5_13) (q := 14) rfl (z := (0 : Int32)) rfl ?_
      refine castGo (g' := mkF m 14 #[.val (.ref s1), .val (iv 2)] [(.int (fso c0 c1 c2 c3 c4 (2 : Int32)))]) (by rw [(show (fso c0 c1 c2 c3 c4 (2 : Int32)) = (0 : Int32) from (if_pos ⟨by decide, hc28⟩))]) ?_
      refine endP X0 hlk (fun h => by rw [hret] at h; cases h) (lastI X0 hx hret (hb hby d_method_5_14)) ?_ (by decide) (by decide)
      rw [e0]
      exact ⟨rfl, N0, rfl⟩
    · refine icY X0 hx (hb hby d_method_5_10) (q := 15) (by decide) (by decide) (flt hc28).2.2.2 ?_
      refine cI X0 hx (hb hby d_method_5_15) (q := 16) rfl (z := (1 : Int32)) rfl ?_
      refine iL X0 hx (hb hby d_method_5_16) (q := 17) rfl rfl ?_
      refine icN X0 hx (hb hby d_method_5_17) (q := 20) rfl (by decide) ?_
      refine aL X0 hx (hb hby d_method_5_20) (q := 21) rfl rfl rfl ?_
      refine cI X0 hx (hb hby d_method_5_21) (q := 22) rfl (z := (1 : Int32)) rfl ?_
      refine g_ldC X0 hx hZ0 PS (i := 1) (by decide) (by decide) (by decide) (v := (.int c1)) rfl e0 (hb hby d_method_5_22) (q := 23) rfl ?_
      refine bI X0 hx (hb hby d_method_5_23) (q := 25) rfl (z := (32 : Int32)) rfl ?_
      by_cases hc29 : (32 : Int32) < c1
      · refine icN X0 hx (hb hby d_method_5_25) (q := 28) rfl (tlt hc29).2.2.2 ?_
        refine cI X0 hx (hb hby d_method_5_28) (q := 29) rfl (z := (1 : Int32)) rfl ?_
        refine castGo (g' := mkF m 29 #[.val (.ref s1), .val (iv 2)] [(.int (fso c0 c1 c2 c3 c4 (2 : Int32)))]) (by rw [(show (fso c0 c1 c2 c3 c4 (2 : Int32)) = (1 : Int32) from ((if_neg (fun q => hc28 q.2)).trans (if_pos ⟨by decide, hc29⟩)))]) ?_
        refine endP X0 hlk (fun h => by rw [hret] at h; cases h) (lastI X0 hx hret (hb hby d_method_5_29)) ?_ (by decide) (by decide)
        rw [e0]
        exact ⟨rfl, N0, rfl⟩
      · refine icY X0 hx (hb hby d_method_5_25) (q := 30) (by decide) (by decide) (flt hc29).2.2.2 ?_
        refine cI X0 hx (hb hby d_method_5_30) (q := 31) rfl (z := (2 : Int32)) rfl ?_
        refine iL X0 hx (hb hby d_method_5_31) (q := 32) rfl rfl ?_
        refine icY X0 hx (hb hby d_method_5_32) (q := 45) (by decide) (by decide) (by decide) ?_
        refine cI X0 hx (hb hby d_method_5_45) (q := 46) rfl (z := (3 : Int32)) rfl ?_
        refine iL X0 hx (hb hby d_method_5_46) (q := 47) rfl rfl ?_
        refine icY X0 hx (hb hby d_method_5_47) (q := 60) (by decide) (by decide) (by decide) ?_
        refine cI X0 hx (hb hby d_method_5_60) (q := 61) rfl (z := (4 : Int32)) rfl ?_
        refine iL X0 hx (hb hby d_method_5_61) (q := 62) rfl rfl ?_
        refine icY X0 hx (hb hby d_method_5_62) (q := 75) (by decide) (by decide) (by decide) ?_
        refine iL X0 hx (hb hby d_method_5_75) (q := 76) rfl rfl ?_
        refine castGo (g' := mkF m 76 #[.val (.ref s1), .val (iv 2)] [(.int (fso c0 c1 c2 c3 c4 (2 : Int32)))]) (by rw [(show (fso c0 c1 c2 c3 c4 (2 : Int32)) = (2 : Int32) from ((if_neg (fun q => hc28 q.2)).trans ((if_neg (fun q => hc29 q.2)).trans ((if_neg (fun q => absurd q.1 (by decide))).trans ((if_neg (fun q => absurd q.1 (by decide))).trans (if_neg (fun q => absurd q.1 (by decide))))))))]) ?_
        refine endP X0 hlk (fun h => by rw [hret] at h; cases h) (lastI X0 hx hret (hb hby d_method_5_76)) ?_ (by decide) (by decide)
        rw [e0]
        exact ⟨rfl, N0, rfl⟩
  · rw [hk24]
    show Go _ _ _ _ (T0.setTop (mkF m 0 #[.val (.ref s1), .val (iv 3)] []))
    refine cI X0 hx (hb hby d_method_5_0) (q := 1) rfl (z := (0 : Int32)) rfl ?_
    refine iL X0 hx (hb hby d_method_5_1) (q := 2) rfl rfl ?_
    refine icN X0 hx (hb hby d_method_5_2) (q := 5) rfl (by decide) ?_
    refine aL X0 hx (hb hby d_method_5_5) (q := 6) rfl rfl rfl ?_
    refine cI X0 hx (hb hby d_method_5_6) (q := 7) rfl (z := (0 : Int32)) rfl ?_
    refine g_ldC X0 hx hZ0 PS (i := 0) (by decide) (by decide) (by decide) (v := (.int c0)) rfl e0 (hb hby d_method_5_7) (q := 8) rfl ?_
    refine bI X0 hx (hb hby d_method_5_8) (q := 10) rfl (z := (32 : Int32)) rfl ?_
    by_cases hc30 : (32 : Int32) < c0
    · refine icN X0 hx (hb hby d_method_5_10) (q := 13) rfl (tlt hc30).2.2.2 ?_
      refine cI X0 hx (hb hby d_method_5_13) (q := 14) rfl (z := (0 : Int32)) rfl ?_
      refine castGo (g' := mkF m 14 #[.val (.ref s1), .val (iv 3)] [(.int (fso c0 c1 c2 c3 c4 (3 : Int32)))]) (by rw [(show (fso c0 c1 c2 c3 c4 (3 : Int32)) = (0 : Int32) from (if_pos ⟨by decide, hc30⟩))]) ?_
      refine endP X0 hlk (fun h => by rw [hret] at h; cases h) (lastI X0 hx hret (hb hby d_method_5_14)) ?_ (by decide) (by decide)
      rw [e0]
      exact ⟨rfl, N0, rfl⟩
    · refine icY X0 hx (hb hby d_method_5_10) (q := 15) (by decide) (by decide) (flt hc30).2.2.2 ?_
      refine cI X0 hx (hb hby d_method_5_15) (q := 16) rfl (z := (1 : Int32)) rfl ?_
      refine iL X0 hx (hb hby d_method_5_16) (q := 17) rfl rfl ?_
      refine icN X0 hx (hb hby d_method_5_17) (q := 20) rfl (by decide) ?_
      refine aL X0 hx (hb hby d_method_5_20) (q := 21) rfl rfl rfl ?_
      refine cI X0 hx (hb hby d_method_5_21) (q := 22) rfl (z := (1 : Int32)) rfl ?_
      refine g_ldC X0 hx hZ0 PS (i := 1) (by decide) (by decide) (by decide) (v := (.int c1)) rfl e0 (hb hby d_method_5_22) (q := 23) rfl ?_
      refine bI X0 hx (hb hby d_method_5_23) (q := 25) rfl (z := (32 : Int32)) rfl ?_
      by_cases hc31 : (32 : Int32) < c1
      · refine icN X0 hx (hb hby d_method_5_25) (q := 28) rfl (tlt hc31).2.2.2 ?_
        refine cI X0 hx (hb hby d_method_5_28) (q := 29) rfl (z := (1 : Int32)) rfl ?_
        refine castGo (g' := mkF m 29 #[.val (.ref s1), .val (iv 3)] [(.int (fso c0 c1 c2 c3 c4 (3 : Int32)))]) (by rw [(show (fso c0 c1 c2 c3 c4 (3 : Int32)) = (1 : Int32) from ((if_neg (fun q => hc30 q.2)).trans (if_pos ⟨by decide, hc31⟩)))]) ?_
        refine endP X0 hlk (fun h => by rw [hret] at h; cases h) (lastI X0 hx hret (hb hby d_method_5_29)) ?_ (by decide) (by decide)
        rw [e0]
        exact ⟨rfl, N0, rfl⟩
      · refine icY X0 hx (hb hby d_method_5_25) (q := 30) (by decide) (by decide) (flt hc31).2.2.2 ?_
        refine cI X0 hx (hb hby d_method_5_30) (q := 31) rfl (z := (2 : Int32)) rfl ?_
        refine iL X0 hx (hb hby d_method_5_31) (q := 32) rfl rfl ?_
        refine icN X0 hx (hb hby d_method_5_32) (q := 35) rfl (by decide) ?_
        refine aL X0 hx (hb hby d_method_5_35) (q := 36) rfl rfl rfl ?_
        refine cI X0 hx (hb hby d_method_5_36) (q := 37) rfl (z := (2 : Int32)) rfl ?_
        refine g_ldC X0 hx hZ0 PS (i := 2) (by decide) (by decide) (by decide) (v := (.int c2)) rfl e0 (hb hby d_method_5_37) (q := 38) rfl ?_
        refine bI X0 hx (hb hby d_method_5_38) (q := 40) rfl (z := (32 : Int32)) rfl ?_
        by_cases hc32 : (32 : Int32) < c2
        · refine icN X0 hx (hb hby d_method_5_40) (q := 43) rfl (tlt hc32).2.2.2 ?_
          refine cI X0 hx (hb hby d_method_5_43) (q := 44) rfl (z := (2 : Int32)) rfl ?_
          refine castGo (g' := mkF m 44 #[.val (.ref s1), .val (iv 3)] [(.int (fso c0 c1 c2 c3 c4 (3 : Int32)))]) (by rw [(show (fso c0 c1 c2 c3 c4 (3 : Int32)) = (2 : Int32) from ((if_neg (fun q => hc30 q.2)).trans ((if_neg (fun q => hc31 q.2)).trans (if_pos ⟨by decide, hc32⟩))))]) ?_
          refine endP X0 hlk (fun h => by rw [hret] at h; cases h) (lastI X0 hx hret (hb hby d_method_5_44)) ?_ (by decide) (by decide)
          rw [e0]
          exact ⟨rfl, N0, rfl⟩
        · refine icY X0 hx (hb hby d_method_5_40) (q := 45) (by decide) (by decide) (flt hc32).2.2.2 ?_
          refine cI X0 hx (hb hby d_method_5_45) (q := 46) rfl (z := (3 : Int32)) rfl ?_
          refine iL X0 hx (hb hby d_method_5_46) (q := 47) rfl rfl ?_
          refine icY X0 hx (hb hby d_method_5_47) (q := 60) (by decide) (by decide) (by decide) ?_
          refine cI X0 hx (hb hby d_method_5_60) (q := 61) rfl (z := (4 : Int32)) rfl ?_
          refine iL X0 hx (hb hby d_method_5_61) (q := 62) rfl rfl ?_
          refine icY X0 hx (hb hby d_method_5_62) (q := 75) (by decide) (by decide) (by decide) ?_
          refine iL X0 hx (hb hby d_method_5_75) (q := 76) rfl rfl ?_
          refine castGo (g' := mkF m 76 #[.val (.ref s1), .val (iv 3)] [(.int (fso c0 c1 c2 c3 c4 (3 : Int32)))]) (by rw [(show (fso c0 c1 c2 c3 c4 (3 : Int32)) = (3 : Int32) from ((if_neg (fun q => hc30 q.2)).trans ((if_neg (fun q => hc31 q.2)).trans ((if_neg (fun q => hc32 q.2)).trans ((if_neg (fun q => absurd q.1 (by decide))).trans (if_neg (fun q => absurd q.1 (by decide))))))))]) ?_
          refine endP X0 hlk (fun h => by rw [hret] at h; cases h) (lastI X0 hx hret (hb hby d_method_5_76)) ?_ (by decide) (by decide)
          rw [e0]
          exact ⟨rfl, N0, rfl⟩
  · rw [hk25]
    show Go _ _ _ _ (T0.setTop (mkF m 0 #[.val (.ref s1), .val (iv 4)] []))
    refine cI X0 hx (hb hby d_method_5_0) (q := 1) rfl (z := (0 : Int32)) rfl ?_
    refine iL X0 hx (hb hby d_method_5_1) (q := 2) rfl rfl ?_
    refine icN X0 hx (hb hby d_method_5_2) (q := 5) rfl (by decide) ?_
    refine aL X0 hx (hb hby d_method_5_5) (q := 6) rfl rfl rfl ?_
    refine cI X0 hx (hb hby d_method_5_6) (q := 7) rfl (z := (0 : Int32)) rfl ?_
    refine g_ldC X0 hx hZ0 PS (i := 0) (by decide) (by decide) (by decide) (v := (.int c0)) rfl e0 (hb hby d_method_5_7) (q := 8) rfl ?_
    refine bI X0 hx (hb hby d_method_5_8) (q := 10) rfl (z := (32 : Int32)) rfl ?_
    by_cases hc33 : (32 : Int32) < c0
    · refine icN X0 hx (hb hby d_method_5_10) (q := 13) rfl (tlt hc33).2.2.2 ?_
      refine cI X0 hx (hb hby d_method_5_13) (q := 14) rfl (z := (0 : Int32)) rfl ?_
      refine castGo (g' := mkF m 14 #[.val (.ref s1), .val (iv 4)] [(.int (fso c0 c1 c2 c3 c4 (4 : Int32)))]) (by rw [(show (fso c0 c1 c2 c3 c4 (4 : Int32)) = (0 : Int32) from (if_pos ⟨by decide, hc33⟩))]) ?_
      refine endP X0 hlk (fun h => by rw [hret] at h; cases h) (lastI X0 hx hret (hb hby d_method_5_14)) ?_ (by decide) (by decide)
      rw [e0]
      exact ⟨rfl, N0, rfl⟩
    · refine icY X0 hx (hb hby d_method_5_10) (q := 15) (by decide) (by decide) (flt hc33).2.2.2 ?_
      refine cI X0 hx (hb hby d_method_5_15) (q := 16) rfl (z := (1 : Int32)) rfl ?_
      refine iL X0 hx (hb hby d_method_5_16) (q := 17) rfl rfl ?_
      refine icN X0 hx (hb hby d_method_5_17) (q := 20) rfl (by decide) ?_
      refine aL X0 hx (hb hby d_method_5_20) (q := 21) rfl rfl rfl ?_
      refine cI X0 hx (hb hby d_method_5_21) (q := 22) rfl (z := (1 : Int32)) rfl ?_
      refine g_ldC X0 hx hZ0 PS (i := 1) (by decide) (by decide) (by decide) (v := (.int c1)) rfl e0 (hb hby d_method_5_22) (q := 23) rfl ?_
      refine bI X0 hx (hb hby d_method_5_23) (q := 25) rfl (z := (32 : Int32)) rfl ?_
      by_cases hc34 : (32 : Int32) < c1
      · refine icN X0 hx (hb hby d_method_5_25) (q := 28) rfl (tlt hc34).2.2.2 ?_
        refine cI X0 hx (hb hby d_method_5_28) (q := 29) rfl (z := (1 : Int32)) rfl ?_
        refine castGo (g' := mkF m 29 #[.val (.ref s1), .val (iv 4)] [(.int (fso c0 c1 c2 c3 c4 (4 : Int32)))]) (by rw [(show (fso c0 c1 c2 c3 c4 (4 : Int32)) = (1 : Int32) from ((if_neg (fun q => hc33 q.2)).trans (if_pos ⟨by decide, hc34⟩)))]) ?_
        refine endP X0 hlk (fun h => by rw [hret] at h; cases h) (lastI X0 hx hret (hb hby d_method_5_29)) ?_ (by decide) (by decide)
        rw [e0]
        exact ⟨rfl, N0, rfl⟩
      · refine icY X0 hx (hb hby d_method_5_25) (q := 30) (by decide) (by decide) (flt hc34).2.2.2 ?_
        refine cI X0 hx (hb hby d_method_5_30) (q := 31) rfl (z := (2 : Int32)) rfl ?_
        refine iL X0 hx (hb hby d_method_5_31) (q := 32) rfl rfl ?_
        refine icN X0 hx (hb hby d_method_5_32) (q := 35) rfl (by decide) ?_
        refine aL X0 hx (hb hby d_method_5_35) (q := 36) rfl rfl rfl ?_
        refine cI X0 hx (hb hby d_method_5_36) (q := 37) rfl (z := (2 : Int32)) rfl ?_
        refine g_ldC X0 hx hZ0 PS (i := 2) (by decide) (by decide) (by decide) (v := (.int c2)) rfl e0 (hb hby d_method_5_37) (q := 38) rfl ?_
        refine bI X0 hx (hb hby d_method_5_38) (q := 40) rfl (z := (32 : Int32)) rfl ?_
        by_cases hc35 : (32 : Int32) < c2
        · refine icN X0 hx (hb hby d_method_5_40) (q := 43) rfl (tlt hc35).2.2.2 ?_
          refine cI X0 hx (hb hby d_method_5_43) (q := 44) rfl (z := (2 : Int32)) rfl ?_
          refine castGo (g' := mkF m 44 #[.val (.ref s1), .val (iv 4)] [(.int (fso c0 c1 c2 c3 c4 (4 : Int32)))]) (by rw [(show (fso c0 c1 c2 c3 c4 (4 : Int32)) = (2 : Int32) from ((if_neg (fun q => hc33 q.2)).trans ((if_neg (fun q => hc34 q.2)).trans (if_pos ⟨by decide, hc35⟩))))]) ?_
          refine endP X0 hlk (fun h => by rw [hret] at h; cases h) (lastI X0 hx hret (hb hby d_method_5_44)) ?_ (by decide) (by decide)
          rw [e0]
          exact ⟨rfl, N0, rfl⟩
        · refine icY X0 hx (hb hby d_method_5_40) (q := 45) (by decide) (by decide) (flt hc35).2.2.2 ?_
          refine cI X0 hx (hb hby d_method_5_45) (q := 46) rfl (z := (3 : Int32)) rfl ?_
          refine iL X0 hx (hb hby d_method_5_46) (q := 47) rfl rfl ?_
          refine icN X0 hx (hb hby d_method_5_47) (q := 50) rfl (by decide) ?_
          refine aL X0 hx (hb hby d_method_5_50) (q := 51) rfl rfl rfl ?_
          refine cI X0 hx (hb hby d_method_5_51) (q := 52) rfl (z := (3 : Int32)) rfl ?_
          refine g_ldC X0 hx hZ0 PS (i := 3) (by decide) (by decide) (by decide) (v := (.int c3)) rfl e0 (hb hby d_method_5_52) (q := 53) rfl ?_
          refine bI X0 hx (hb hby d_method_5_53) (q := 55) rfl (z := (32 : Int32)) rfl ?_
          by_cases hc36 : (32 : Int32) < c3
          · refine icN X0 hx (hb hby d_method_5_55) (q := 58) rfl (tlt hc36).2.2.2 ?_
            refine cI X0 hx (hb hby d_method_5_58) (q := 59) rfl (z := (3 : Int32)) rfl ?_
            refine castGo (g' := mkF m 59 #[.val (.ref s1), .val (iv 4)] [(.int (fso c0 c1 c2 c3 c4 (4 : Int32)))]) (by rw [(show (fso c0 c1 c2 c3 c4 (4 : Int32)) = (3 : Int32) from ((if_neg (fun q => hc33 q.2)).trans ((if_neg (fun q => hc34 q.2)).trans ((if_neg (fun q => hc35 q.2)).trans (if_pos ⟨by decide, hc36⟩)))))]) ?_
            refine endP X0 hlk (fun h => by rw [hret] at h; cases h) (lastI X0 hx hret (hb hby d_method_5_59)) ?_ (by decide) (by decide)
            rw [e0]
            exact ⟨rfl, N0, rfl⟩
          · refine icY X0 hx (hb hby d_method_5_55) (q := 60) (by decide) (by decide) (flt hc36).2.2.2 ?_
            refine cI X0 hx (hb hby d_method_5_60) (q := 61) rfl (z := (4 : Int32)) rfl ?_
            refine iL X0 hx (hb hby d_method_5_61) (q := 62) rfl rfl ?_
            refine icY X0 hx (hb hby d_method_5_62) (q := 75) (by decide) (by decide) (by decide) ?_
            refine iL X0 hx (hb hby d_method_5_75) (q := 76) rfl rfl ?_
            refine castGo (g' := mkF m 76 #[.val (.ref s1), .val (iv 4)] [(.int (fso c0 c1 c2 c3 c4 (4 : Int32)))]) (by rw [(show (fso c0 c1 c2 c3 c4 (4 : Int32)) = (4 : Int32) from ((if_neg (fun q => hc33 q.2)).trans ((if_neg (fun q => hc34 q.2)).trans ((if_neg (fun q => hc35 q.2)).trans ((if_neg (fun q => hc36 q.2)).trans (if_neg (fun q => absurd q.1 (by decide))))))))]) ?_
            refine endP X0 hlk (fun h => by rw [hret] at h; cases h) (lastI X0 hx hret (hb hby d_method_5_76)) ?_ (by decide) (by decide)
            rw [e0]
            exact ⟨rfl, N0, rfl⟩
  · rw [hk26]
    show Go _ _ _ _ (T0.setTop (mkF m 0 #[.val (.ref s1), .val (iv 5)] []))
    refine cI X0 hx (hb hby d_method_5_0) (q := 1) rfl (z := (0 : Int32)) rfl ?_
    refine iL X0 hx (hb hby d_method_5_1) (q := 2) rfl rfl ?_
    refine icN X0 hx (hb hby d_method_5_2) (q := 5) rfl (by decide) ?_
    refine aL X0 hx (hb hby d_method_5_5) (q := 6) rfl rfl rfl ?_
    refine cI X0 hx (hb hby d_method_5_6) (q := 7) rfl (z := (0 : Int32)) rfl ?_
    refine g_ldC X0 hx hZ0 PS (i := 0) (by decide) (by decide) (by decide) (v := (.int c0)) rfl e0 (hb hby d_method_5_7) (q := 8) rfl ?_
    refine bI X0 hx (hb hby d_method_5_8) (q := 10) rfl (z := (32 : Int32)) rfl ?_
    by_cases hc37 : (32 : Int32) < c0
    · refine icN X0 hx (hb hby d_method_5_10) (q := 13) rfl (tlt hc37).2.2.2 ?_
      refine cI X0 hx (hb hby d_method_5_13) (q := 14) rfl (z := (0 : Int32)) rfl ?_
      refine castGo (g' := mkF m 14 #[.val (.ref s1), .val (iv 5)] [(.int (fso c0 c1 c2 c3 c4 (5 : Int32)))]) (by rw [(show (fso c0 c1 c2 c3 c4 (5 : Int32)) = (0 : Int32) from (if_pos ⟨by decide, hc37⟩))]) ?_
      refine endP X0 hlk (fun h => by rw [hret] at h; cases h) (lastI X0 hx hret (hb hby d_method_5_14)) ?_ (by decide) (by decide)
      rw [e0]
      exact ⟨rfl, N0, rfl⟩
    · refine icY X0 hx (hb hby d_method_5_10) (q := 15) (by decide) (by decide) (flt hc37).2.2.2 ?_
      refine cI X0 hx (hb hby d_method_5_15) (q := 16) rfl (z := (1 : Int32)) rfl ?_
      refine iL X0 hx (hb hby d_method_5_16) (q := 17) rfl rfl ?_
      refine icN X0 hx (hb hby d_method_5_17) (q := 20) rfl (by decide) ?_
      refine aL X0 hx (hb hby d_method_5_20) (q := 21) rfl rfl rfl ?_
      refine cI X0 hx (hb hby d_method_5_21) (q := 22) rfl (z := (1 : Int32)) rfl ?_
      refine g_ldC X0 hx hZ0 PS (i := 1) (by decide) (by decide) (by decide) (v := (.int c1)) rfl e0 (hb hby d_method_5_22) (q := 23) rfl ?_
      refine bI X0 hx (hb hby d_method_5_23) (q := 25) rfl (z := (32 : Int32)) rfl ?_
      by_cases hc38 : (32 : Int32) < c1
      · refine icN X0 hx (hb hby d_method_5_25) (q := 28) rfl (tlt hc38).2.2.2 ?_
        refine cI X0 hx (hb hby d_method_5_28) (q := 29) rfl (z := (1 : Int32)) rfl ?_
        refine castGo (g' := mkF m 29 #[.val (.ref s1), .val (iv 5)] [(.int (fso c0 c1 c2 c3 c4 (5 : Int32)))]) (by rw [(show (fso c0 c1 c2 c3 c4 (5 : Int32)) = (1 : Int32) from ((if_neg (fun q => hc37 q.2)).trans (if_pos ⟨by decide, hc38⟩)))]) ?_
        refine endP X0 hlk (fun h => by rw [hret] at h; cases h) (lastI X0 hx hret (hb hby d_method_5_29)) ?_ (by decide) (by decide)
        rw [e0]
        exact ⟨rfl, N0, rfl⟩
      · refine icY X0 hx (hb hby d_method_5_25) (q := 30) (by decide) (by decide) (flt hc38).2.2.2 ?_
        refine cI X0 hx (hb hby d_method_5_30) (q := 31) rfl (z := (2 : Int32)) rfl ?_
        refine iL X0 hx (hb hby d_method_5_31) (q := 32) rfl rfl ?_
        refine icN X0 hx (hb hby d_method_5_32) (q := 35) rfl (by decide) ?_
        refine aL X0 hx (hb hby d_method_5_35) (q := 36) rfl rfl rfl ?_
        refine cI X0 hx (hb hby d_method_5_36) (q := 37) rfl (z := (2 : Int32)) rfl ?_
        refine g_ldC X0 hx hZ0 PS (i := 2) (by decide) (by decide) (by decide) (v := (.int c2)) rfl e0 (hb hby d_method_5_37) (q := 38) rfl ?_
        refine bI X0 hx (hb hby d_method_5_38) (q := 40) rfl (z := (32 : Int32)) rfl ?_
        by_cases hc39 : (32 : Int32) < c2
        · refine icN X0 hx (hb hby d_method_5_40) (q := 43) rfl (tlt hc39).2.2.2 ?_
          refine cI X0 hx (hb hby d_method_5_43) (q := 44) rfl (z := (2 : Int32)) rfl ?_
          refine castGo (g' := mkF m 44 #[.val (.ref s1), .val (iv 5)] [(.int (fso c0 c1 c2 c3 c4 (5 : Int32)))]) (by rw [(show (fso c0 c1 c2 c3 c4 (5 : Int32)) = (2 : Int32) from ((if_neg (fun q => hc37 q.2)).trans ((if_neg (fun q => hc38 q.2)).trans (if_pos ⟨by decide, hc39⟩))))]) ?_
          refine endP X0 hlk (fun h => by rw [hret] at h; cases h) (lastI X0 hx hret (hb hby d_method_5_44)) ?_ (by decide) (by decide)
          rw [e0]
          exact ⟨rfl, N0, rfl⟩
        · refine icY X0 hx (hb hby d_method_5_40) (q := 45) (by decide) (by decide) (flt hc39).2.2.2 ?_
          refine cI X0 hx (hb hby d_method_5_45) (q := 46) rfl (z := (3 : Int32)) rfl ?_
          refine iL X0 hx (hb hby d_method_5_46) (q := 47) rfl rfl ?_
          refine icN X0 hx (hb hby d_method_5_47) (q := 50) rfl (by decide) ?_
          refine aL X0 hx (hb hby d_method_5_50) (q := 51) rfl rfl rfl ?_
          refine cI X0 hx (hb hby d_method_5_51) (q := 52) rfl (z := (3 : Int32)) rfl ?_
          refine g_ldC X0 hx hZ0 PS (i := 3) (by decide) (by decide) (by decide) (v := (.int c3)) rfl e0 (hb hby d_method_5_52) (q := 53) rfl ?_
          refine bI X0 hx (hb hby d_method_5_53) (q := 55) rfl (z := (32 : Int32)) rfl ?_
          by_cases hc40 : (32 : Int32) < c3
          · refine icN X0 hx (hb hby d_method_5_55) (q := 58) rfl (tlt hc40).2.2.2 ?_
            refine cI X0 hx (hb hby d_method_5_58) (q := 59) rfl (z := (3 : Int32)) rfl ?_
            refine castGo (g' := mkF m 59 #[.val (.ref s1), .val (iv 5)] [(.int (fso c0 c1 c2 c3 c4 (5 : Int32)))]) (by rw [(show (fso c0 c1 c2 c3 c4 (5 : Int32)) = (3 : Int32) from ((if_neg (fun q => hc37 q.2)).trans ((if_neg (fun q => hc38 q.2)).trans ((if_neg (fun q => hc39 q.2)).trans (if_pos ⟨by decide, hc40⟩)))))]) ?_
            refine endP X0 hlk (fun h => by rw [hret] at h; cases h) (lastI X0 hx hret (hb hby d_method_5_59)) ?_ (by decide) (by decide)
            rw [e0]
            exact ⟨rfl, N0, rfl⟩
          · refine icY X0 hx (hb hby d_method_5_55) (q := 60) (by decide) (by decide) (flt hc40).2.2.2 ?_
            refine cI X0 hx (hb hby d_method_5_60) (q := 61) rfl (z := (4 : Int32)) rfl ?_
            refine iL X0 hx (hb hby d_method_5_61) (q := 62) rfl rfl ?_
            refine icN X0 hx (hb hby d_method_5_62) (q := 65) rfl (by decide) ?_
            refine aL X0 hx (hb hby d_method_5_65) (q := 66) rfl rfl rfl ?_
            refine cI X0 hx (hb hby d_method_5_66) (q := 67) rfl (z := (4 : Int32)) rfl ?_
            refine g_ldC X0 hx hZ0 PS (i := 4) (by decide) (by decide) (by decide) (v := (.int c4)) rfl e0 (hb hby d_method_5_67) (q := 68) rfl ?_
            refine bI X0 hx (hb hby d_method_5_68) (q := 70) rfl (z := (32 : Int32)) rfl ?_
            by_cases hc41 : (32 : Int32) < c4
            · refine icN X0 hx (hb hby d_method_5_70) (q := 73) rfl (tlt hc41).2.2.2 ?_
              refine cI X0 hx (hb hby d_method_5_73) (q := 74) rfl (z := (4 : Int32)) rfl ?_
              refine castGo (g' := mkF m 74 #[.val (.ref s1), .val (iv 5)] [(.int (fso c0 c1 c2 c3 c4 (5 : Int32)))]) (by rw [(show (fso c0 c1 c2 c3 c4 (5 : Int32)) = (4 : Int32) from ((if_neg (fun q => hc37 q.2)).trans ((if_neg (fun q => hc38 q.2)).trans ((if_neg (fun q => hc39 q.2)).trans ((if_neg (fun q => hc40 q.2)).trans (if_pos ⟨by decide, hc41⟩))))))]) ?_
              refine endP X0 hlk (fun h => by rw [hret] at h; cases h) (lastI X0 hx hret (hb hby d_method_5_74)) ?_ (by decide) (by decide)
              rw [e0]
              exact ⟨rfl, N0, rfl⟩
            · refine icY X0 hx (hb hby d_method_5_70) (q := 75) (by decide) (by decide) (flt hc41).2.2.2 ?_
              refine iL X0 hx (hb hby d_method_5_75) (q := 76) rfl rfl ?_
              refine castGo (g' := mkF m 76 #[.val (.ref s1), .val (iv 5)] [(.int (fso c0 c1 c2 c3 c4 (5 : Int32)))]) (by rw [(show (fso c0 c1 c2 c3 c4 (5 : Int32)) = (5 : Int32) from ((if_neg (fun q => hc37 q.2)).trans ((if_neg (fun q => hc38 q.2)).trans ((if_neg (fun q => hc39 q.2)).trans ((if_neg (fun q => hc40 q.2)).trans (if_neg (fun q => hc41 q.2)))))))]) ?_
              refine endP X0 hlk (fun h => by rw [hret] at h; cases h) (lastI X0 hx hret (hb hby d_method_5_76)) ?_ (by decide) (by decide)
              rw [e0]
              exact ⟨rfl, N0, rfl⟩
theorem d_method_6_0 : decode method_6_code 0 = .ok (.iconst 4, 1) := by decide +kernel
theorem d_method_6_1 : decode method_6_code 1 = .ok (.iload_n 1, 1) := by decide +kernel
theorem d_method_6_2 : decode method_6_code 2 = .ok (.if_icmp .ge 13, 3) := by decide +kernel
theorem d_method_6_15 : decode method_6_code 15 = .ok (.iconst 3, 1) := by decide +kernel
theorem d_method_6_16 : decode method_6_code 16 = .ok (.iload_n 1, 1) := by decide +kernel
theorem d_method_6_17 : decode method_6_code 17 = .ok (.if_icmp .ge 13, 3) := by decide +kernel
theorem d_method_6_30 : decode method_6_code 30 = .ok (.iconst 2, 1) := by decide +kernel
theorem d_method_6_31 : decode method_6_code 31 = .ok (.iload_n 1, 1) := by decide +kernel
theorem d_method_6_32 : decode method_6_code 32 = .ok (.if_icmp .ge 13, 3) := by decide +kernel
theorem d_method_6_45 : decode method_6_code 45 = .ok (.iconst 1, 1) := by decide +kernel
theorem d_method_6_46 : decode method_6_code 46 = .ok (.iload_n 1, 1) := by decide +kernel
theorem d_method_6_47 : decode method_6_code 47 = .ok (.if_icmp .ge 13, 3) := by decide +kernel
theorem d_method_6_60 : decode method_6_code 60 = .ok (.iconst 0, 1) := by decide +kernel
theorem d_method_6_61 : decode method_6_code 61 = .ok (.iload_n 1, 1) := by decide +kernel
theorem d_method_6_62 : decode method_6_code 62 = .ok (.if_icmp .ge 13, 3) := by decide +kernel
theorem d_method_6_75 : decode method_6_code 75 = .ok (.iconst 0, 1) := by decide +kernel
theorem d_method_6_76 : decode method_6_code 76 = .ok (.ireturn, 1) := by decide +kernel
theorem d_method_6_65 : decode method_6_code 65 = .ok (.aload_n 0, 1) := by decide +kernel
theorem d_method_6_66 : decode method_6_code 66 = .ok (.iconst 0, 1) := by decide +kernel
theorem d_method_6_67 : decode method_6_code 67 = .ok (.caload, 1) := by decide +kernel
theorem d_method_6_68 : decode method_6_code 68 = .ok (.bipush 32, 2) := by decide +kernel
theorem d_method_6_70 : decode method_6_code 70 = .ok (.if_icmp .le 5, 3) := by decide +kernel
theorem d_method_6_73 : decode method_6_code 73 = .ok (.iconst 1, 1) := by decide +kernel
theorem d_method_6_74 : decode method_6_code 74 = .ok (.ireturn, 1) := by decide +kernel
theorem d_method_6_50 : decode method_6_code 50 = .ok (.aload_n 0, 1) := by decide +kernel
theorem d_method_6_51 : decode method_6_code 51 = .ok (.iconst 1, 1) := by decide +kernel
theorem d_method_6_52 : decode method_6_code 52 = .ok (.caload, 1) := by decide +kernel
theorem d_method_6_53 : decode method_6_code 53 = .ok (.bipush 32, 2) := by decide +kernel
theorem d_method_6_55 : decode method_6_code 55 = .ok (.if_icmp .le 5, 3) := by decide +kernel
theorem d_method_6_58 : decode method_6_code 58 = .ok (.iconst 2, 1) := by decide +kernel
theorem d_method_6_59 : decode method_6_code 59 = .ok (.ireturn, 1) := by decide +kernel
theorem d_method_6_35 : decode method_6_code 35 = .ok (.aload_n 0, 1) := by decide +kernel
theorem d_method_6_36 : decode method_6_code 36 = .ok (.iconst 2, 1) := by decide +kernel
theorem d_method_6_37 : decode method_6_code 37 = .ok (.caload, 1) := by decide +kernel
theorem d_method_6_38 : decode method_6_code 38 = .ok (.bipush 32, 2) := by decide +kernel
theorem d_method_6_40 : decode method_6_code 40 = .ok (.if_icmp .le 5, 3) := by decide +kernel
theorem d_method_6_43 : decode method_6_code 43 = .ok (.iconst 3, 1) := by decide +kernel
theorem d_method_6_44 : decode method_6_code 44 = .ok (.ireturn, 1) := by decide +kernel
theorem d_method_6_20 : decode method_6_code 20 = .ok (.aload_n 0, 1) := by decide +kernel
theorem d_method_6_21 : decode method_6_code 21 = .ok (.iconst 3, 1) := by decide +kernel
theorem d_method_6_22 : decode method_6_code 22 = .ok (.caload, 1) := by decide +kernel
theorem d_method_6_23 : decode method_6_code 23 = .ok (.bipush 32, 2) := by decide +kernel
theorem d_method_6_25 : decode method_6_code 25 = .ok (.if_icmp .le 5, 3) := by decide +kernel
theorem d_method_6_28 : decode method_6_code 28 = .ok (.iconst 4, 1) := by decide +kernel
theorem d_method_6_29 : decode method_6_code 29 = .ok (.ireturn, 1) := by decide +kernel
theorem d_method_6_5 : decode method_6_code 5 = .ok (.aload_n 0, 1) := by decide +kernel
theorem d_method_6_6 : decode method_6_code 6 = .ok (.iconst 4, 1) := by decide +kernel
theorem d_method_6_7 : decode method_6_code 7 = .ok (.caload, 1) := by decide +kernel
theorem d_method_6_8 : decode method_6_code 8 = .ok (.bipush 32, 2) := by decide +kernel
theorem d_method_6_10 : decode method_6_code 10 = .ok (.if_icmp .le 5, 3) := by decide +kernel
theorem d_method_6_13 : decode method_6_code 13 = .ok (.iconst 5, 1) := by decide +kernel
theorem d_method_6_14 : decode method_6_code 14 = .ok (.ireturn, 1) := by decide +kernel
def Q_lsolid (Z : State) (zC : Int32) (vF : Value) (aI : Addr) (aR : Addr) (s1 : Addr) (ks : ClassId) (c0 : Int32) (c1 : Int32) (c2 : Int32) (c3 : Int32) (c4 : Int32) (fn : Int32) (h0 : Heap) (v : Option Value) (h : Heap) (L : List Loc) : Prop := v = some (.int (lse c0 c1 c2 c3 c4 fn)) ∧ Fr Z.heap.size L ∧ h = h0
theorem rm_lsolid (l : Launch) (Z : State) (a0 : Array Value) (hw : HW a0 Z) (zC : Int32) (SC : tSC Z zC) (PC : ¬ zC = (0 : Int32)) (vF : Value) (rF : vF = .null ∨ ∃ a, vF = .ref a) (SF : tSF Z vF) (aI : Addr) (SI : tSI Z aI) (aR : Addr) (SR : tSR Z aR) (s1 : Addr) (ks : ClassId) (c0 : Int32) (c1 : Int32) (c2 : Int32) (c3 : Int32) (c4 : Int32) (fn : Int32) (h0 : Heap) (O0 : Old Z Z.heap.size h0) (PS : Arv Z h0 s1 ks .char (5 : Int32) [(.int c0), (.int c1), (.int c2), (.int c3), (.int c4)] (.int 0)) (hfn : (fn = (0 : Int32) ∨ fn = (1 : Int32) ∨ fn = (2 : Int32) ∨ fn = (3 : Int32) ∨ fn = (4 : Int32) ∨ fn = (5 : Int32))) :
    Con l Z (⟨sT1, "lastSolidEnd", "([CI)I"⟩ : MethodName) method_6_code 2 (some .int) ({ frames := 0, cells := 0, slots := 0, locals := 0 } : Room) #[(.ref s1), (.int fn)] h0 (Q_lsolid Z zC vF aI aR s1 ks c0 c1 c2 c3 c4 fn h0) := by
  refine Con.intro (plainFor_of_name pn0) ?_
  intro p e s m below meth c T0 X0 hx hby hml hown0 hnm hret hlk hZ0 e0
  have N0 := Fr.nil Z.heap.size
  refine castGo (g' := mkF m 0 #[.val (.ref s1), .val (.int fn)] []) (by first | rfl | (simp [entryFrame, mkF, argsToLocals, Value.category]; done)) ?_
  show Go _ _ _ _ (T0.setTop (mkF m 0 #[.val (.ref s1), .val (.int fn)] []))
  rcases (hfn : fn = (0 : Int32) ∨ fn = (1 : Int32) ∨ fn = (2 : Int32) ∨ fn = (3 : Int32) ∨ fn = (4 : Int32) ∨ fn = (5 : Int32)) with hk42 | hk43 | hk44 | hk45 | hk46 | hk47
  · rw [hk42]
    show Go _ _ _ _ (T0.setTop (mkF m 0 #[.val (.ref s1), .val (iv 0)] []))
    refine cI X0 hx (hb hby d_method_6_0) (q := 1) rfl (z := (4 : Int32)) rfl ?_
    refine iL X0 hx (hb hby d_method_6_1) (q := 2) rfl rfl ?_
    refine icY X0 hx (hb hby d_method_6_2) (q := 15) (by decide) (by decide) (by decide) ?_
    refine cI X0 hx (hb hby d_method_6_15) (q := 16) rfl (z := (3 : Int32)) rfl ?_
    refine iL X0 hx (hb hby d_method_6_16) (q := 17) rfl rfl ?_
    refine icY X0 hx (hb hby d_method_6_17) (q := 30) (by decide) (by decide) (by decide) ?_
    refine cI X0 hx (hb hby d_method_6_30) (q := 31) rfl (z := (2 : Int32)) rfl ?_
    refine iL X0 hx (hb hby d_method_6_31) (q := 32) rfl rfl ?_
    refine icY X0 hx (hb hby d_method_6_32) (q := 45) (by decide) (by decide) (by decide) ?_
    refine cI X0 hx (hb hby d_method_6_45) (q := 46) rfl (z := (1 : Int32)) rfl ?_
    refine iL X0 hx (hb hby d_method_6_46) (q := 47) rfl rfl ?_
    refine icY X0 hx (hb hby d_method_6_47) (q := 60) (by decide) (by decide) (by decide) ?_
    refine cI X0 hx (hb hby d_method_6_60) (q := 61) rfl (z := (0 : Int32)) rfl ?_
    refine iL X0 hx (hb hby d_method_6_61) (q := 62) rfl rfl ?_
    refine icY X0 hx (hb hby d_method_6_62) (q := 75) (by decide) (by decide) (by decide) ?_
    refine cI X0 hx (hb hby d_method_6_75) (q := 76) rfl (z := (0 : Int32)) rfl ?_
    refine castGo (g' := mkF m 76 #[.val (.ref s1), .val (iv 0)] [(.int (lse c0 c1 c2 c3 c4 (0 : Int32)))]) (by rw [(show (lse c0 c1 c2 c3 c4 (0 : Int32)) = (0 : Int32) from ((if_neg (fun q => absurd q.1 (by decide))).trans ((if_neg (fun q => absurd q.1 (by decide))).trans ((if_neg (fun q => absurd q.1 (by decide))).trans ((if_neg (fun q => absurd q.1 (by decide))).trans (if_neg (fun q => absurd q.1 (by decide))))))))]) ?_
    refine endP X0 hlk (fun h => by rw [hret] at h; cases h) (lastI X0 hx hret (hb hby d_method_6_76)) ?_ (by decide) (by decide)
    rw [e0]
    exact ⟨rfl, N0, rfl⟩
  · rw [hk43]
    show Go _ _ _ _ (T0.setTop (mkF m 0 #[.val (.ref s1), .val (iv 1)] []))
    refine cI X0 hx (hb hby d_method_6_0) (q := 1) rfl (z := (4 : Int32)) rfl ?_
    refine iL X0 hx (hb hby d_method_6_1) (q := 2) rfl rfl ?_
    refine icY X0 hx (hb hby d_method_6_2) (q := 15) (by decide) (by decide) (by decide) ?_
    refine cI X0 hx (hb hby d_method_6_15) (q := 16) rfl (z := (3 : Int32)) rfl ?_
    refine iL X0 hx (hb hby d_method_6_16) (q := 17) rfl rfl ?_
    refine icY X0 hx (hb hby d_method_6_17) (q := 30) (by decide) (by decide) (by decide) ?_
    refine cI X0 hx (hb hby d_method_6_30) (q := 31) rfl (z := (2 : Int32)) rfl ?_
    refine iL X0 hx (hb hby d_method_6_31) (q := 32) rfl rfl ?_
    refine icY X0 hx (hb hby d_method_6_32) (q := 45) (by decide) (by decide) (by decide) ?_
    refine cI X0 hx (hb hby d_method_6_45) (q := 46) rfl (z := (1 : Int32)) rfl ?_
    refine iL X0 hx (hb hby d_method_6_46) (q := 47) rfl rfl ?_
    refine icY X0 hx (hb hby d_method_6_47) (q := 60) (by decide) (by decide) (by decide) ?_
    refine cI X0 hx (hb hby d_method_6_60) (q := 61) rfl (z := (0 : Int32)) rfl ?_
    refine iL X0 hx (hb hby d_method_6_61) (q := 62) rfl rfl ?_
    refine icN X0 hx (hb hby d_method_6_62) (q := 65) rfl (by decide) ?_
    refine aL X0 hx (hb hby d_method_6_65) (q := 66) rfl rfl rfl ?_
    refine cI X0 hx (hb hby d_method_6_66) (q := 67) rfl (z := (0 : Int32)) rfl ?_
    refine g_ldC X0 hx hZ0 PS (i := 0) (by decide) (by decide) (by decide) (v := (.int c0)) rfl e0 (hb hby d_method_6_67) (q := 68) rfl ?_
    refine bI X0 hx (hb hby d_method_6_68) (q := 70) rfl (z := (32 : Int32)) rfl ?_
    by_cases hc48 : (32 : Int32) < c0
    · refine icN X0 hx (hb hby d_method_6_70) (q := 73) rfl (tlt hc48).2.2.2 ?_
      refine cI X0 hx (hb hby d_method_6_73) (q := 74) rfl (z := (1 : Int32)) rfl ?_
      refine castGo (g' := mkF m 74 #[.val (.ref s1), .val (iv 1)] [(.int (lse c0 c1 c2 c3 c4 (1 : Int32)))]) (by rw [(show (lse c0 c1 c2 c3 c4 (1 : Int32)) = (1 : Int32) from ((if_neg (fun q => absurd q.1 (by decide))).trans ((if_neg (fun q => absurd q.1 (by decide))).trans ((if_neg (fun q => absurd q.1 (by decide))).trans ((if_neg (fun q => absurd q.1 (by decide))).trans (if_pos ⟨by decide, hc48⟩))))))]) ?_
      refine endP X0 hlk (fun h => by rw [hret] at h; cases h) (lastI X0 hx hret (hb hby d_method_6_74)) ?_ (by decide) (by decide)
      rw [e0]
      exact ⟨rfl, N0, rfl⟩
    · refine icY X0 hx (hb hby d_method_6_70) (q := 75) (by decide) (by decide) (flt hc48).2.2.2 ?_
      refine cI X0 hx (hb hby d_method_6_75) (q := 76) rfl (z := (0 : Int32)) rfl ?_
      refine castGo (g' := mkF m 76 #[.val (.ref s1), .val (iv 1)] [(.int (lse c0 c1 c2 c3 c4 (1 : Int32)))]) (by rw [(show (lse c0 c1 c2 c3 c4 (1 : Int32)) = (0 : Int32) from ((if_neg (fun q => absurd q.1 (by decide))).trans ((if_neg (fun q => absurd q.1 (by decide))).trans ((if_neg (fun q => absurd q.1 (by decide))).trans ((if_neg (fun q => absurd q.1 (by decide))).trans (if_neg (fun q => hc48 q.2)))))))]) ?_
      refine endP X0 hlk (fun h => by rw [hret] at h; cases h) (lastI X0 hx hret (hb hby d_method_6_76)) ?_ (by decide) (by decide)
      rw [e0]
      exact ⟨rfl, N0, rfl⟩
  · rw [hk44]
    show Go _ _ _ _ (T0.setTop (mkF m 0 #[.val (.ref s1), .val (iv 2)] []))
    refine cI X0 hx (hb hby d_method_6_0) (q := 1) rfl (z := (4 : Int32)) rfl ?_
    refine iL X0 hx (hb hby d_method_6_1) (q := 2) rfl rfl ?_
    refine icY X0 hx (hb hby d_method_6_2) (q := 15) (by decide) (by decide) (by decide) ?_
    refine cI X0 hx (hb hby d_method_6_15) (q := 16) rfl (z := (3 : Int32)) rfl ?_
    refine iL X0 hx (hb hby d_method_6_16) (q := 17) rfl rfl ?_
    refine icY X0 hx (hb hby d_method_6_17) (q := 30) (by decide) (by decide) (by decide) ?_
    refine cI X0 hx (hb hby d_method_6_30) (q := 31) rfl (z := (2 : Int32)) rfl ?_
    refine iL X0 hx (hb hby d_method_6_31) (q := 32) rfl rfl ?_
    refine icY X0 hx (hb hby d_method_6_32) (q := 45) (by decide) (by decide) (by decide) ?_
    refine cI X0 hx (hb hby d_method_6_45) (q := 46) rfl (z := (1 : Int32)) rfl ?_
    refine iL X0 hx (hb hby d_method_6_46) (q := 47) rfl rfl ?_
    refine icN X0 hx (hb hby d_method_6_47) (q := 50) rfl (by decide) ?_
    refine aL X0 hx (hb hby d_method_6_50) (q := 51) rfl rfl rfl ?_
    refine cI X0 hx (hb hby d_method_6_51) (q := 52) rfl (z := (1 : Int32)) rfl ?_
    refine g_ldC X0 hx hZ0 PS (i := 1) (by decide) (by decide) (by decide) (v := (.int c1)) rfl e0 (hb hby d_method_6_52) (q := 53) rfl ?_
    refine bI X0 hx (hb hby d_method_6_53) (q := 55) rfl (z := (32 : Int32)) rfl ?_
    by_cases hc49 : (32 : Int32) < c1
    · refine icN X0 hx (hb hby d_method_6_55) (q := 58) rfl (tlt hc49).2.2.2 ?_
      refine cI X0 hx (hb hby d_method_6_58) (q := 59) rfl (z := (2 : Int32)) rfl ?_
      refine castGo (g' := mkF m 59 #[.val (.ref s1), .val (iv 2)] [(.int (lse c0 c1 c2 c3 c4 (2 : Int32)))]) (by rw [(show (lse c0 c1 c2 c3 c4 (2 : Int32)) = (2 : Int32) from ((if_neg (fun q => absurd q.1 (by decide))).trans ((if_neg (fun q => absurd q.1 (by decide))).trans ((if_neg (fun q => absurd q.1 (by decide))).trans (if_pos ⟨by decide, hc49⟩)))))]) ?_
      refine endP X0 hlk (fun h => by rw [hret] at h; cases h) (lastI X0 hx hret (hb hby d_method_6_59)) ?_ (by decide) (by decide)
      rw [e0]
      exact ⟨rfl, N0, rfl⟩
    · refine icY X0 hx (hb hby d_method_6_55) (q := 60) (by decide) (by decide) (flt hc49).2.2.2 ?_
      refine cI X0 hx (hb hby d_method_6_60) (q := 61) rfl (z := (0 : Int32)) rfl ?_
      refine iL X0 hx (hb hby d_method_6_61) (q := 62) rfl rfl ?_
      refine icN X0 hx (hb hby d_method_6_62) (q := 65) rfl (by decide) ?_
      refine aL X0 hx (hb hby d_method_6_65) (q := 66) rfl rfl rfl ?_
      refine cI X0 hx (hb hby d_method_6_66) (q := 67) rfl (z := (0 : Int32)) rfl ?_
      refine g_ldC X0 hx hZ0 PS (i := 0) (by decide) (by decide) (by decide) (v := (.int c0)) rfl e0 (hb hby d_method_6_67) (q := 68) rfl ?_
      refine bI X0 hx (hb hby d_method_6_68) (q := 70) rfl (z := (32 : Int32)) rfl ?_
      by_cases hc50 : (32 : Int32) < c0
      · refine icN X0 hx (hb hby d_method_6_70) (q := 73) rfl (tlt hc50).2.2.2 ?_
        refine cI X0 hx (hb hby d_method_6_73) (q := 74) rfl (z := (1 : Int32)) rfl ?_
        refine castGo (g' := mkF m 74 #[.val (.ref s1), .val (iv 2)] [(.int (lse c0 c1 c2 c3 c4 (2 : Int32)))]) (by rw [(show (lse c0 c1 c2 c3 c4 (2 : Int32)) = (1 : Int32) from ((if_neg (fun q => absurd q.1 (by decide))).trans ((if_neg (fun q => absurd q.1 (by decide))).trans ((if_neg (fun q => absurd q.1 (by decide))).trans ((if_neg (fun q => hc49 q.2)).trans (if_pos ⟨by decide, hc50⟩))))))]) ?_
        refine endP X0 hlk (fun h => by rw [hret] at h; cases h) (lastI X0 hx hret (hb hby d_method_6_74)) ?_ (by decide) (by decide)
        rw [e0]
        exact ⟨rfl, N0, rfl⟩
      · refine icY X0 hx (hb hby d_method_6_70) (q := 75) (by decide) (by decide) (flt hc50).2.2.2 ?_
        refine cI X0 hx (hb hby d_method_6_75) (q := 76) rfl (z := (0 : Int32)) rfl ?_
        refine castGo (g' := mkF m 76 #[.val (.ref s1), .val (iv 2)] [(.int (lse c0 c1 c2 c3 c4 (2 : Int32)))]) (by rw [(show (lse c0 c1 c2 c3 c4 (2 : Int32)) = (0 : Int32) from ((if_neg (fun q => absurd q.1 (by decide))).trans ((if_neg (fun q => absurd q.1 (by decide))).trans ((if_neg (fun q => absurd q.1 (by decide))).trans ((if_neg (fun q => hc49 q.2)).trans (if_neg (fun q => hc50 q.2)))))))]) ?_
        refine endP X0 hlk (fun h => by rw [hret] at h; cases h) (lastI X0 hx hret (hb hby d_method_6_76)) ?_ (by decide) (by decide)
        rw [e0]
        exact ⟨rfl, N0, rfl⟩
  · rw [hk45]
    show Go _ _ _ _ (T0.setTop (mkF m 0 #[.val (.ref s1), .val (iv 3)] []))
    refine cI X0 hx (hb hby d_method_6_0) (q := 1) rfl (z := (4 : Int32)) rfl ?_
    refine iL X0 hx (hb hby d_method_6_1) (q := 2) rfl rfl ?_
    refine icY X0 hx (hb hby d_method_6_2) (q := 15) (by decide) (by decide) (by decide) ?_
    refine cI X0 hx (hb hby d_method_6_15) (q := 16) rfl (z := (3 : Int32)) rfl ?_
    refine iL X0 hx (hb hby d_method_6_16) (q := 17) rfl rfl ?_
    refine icY X0 hx (hb hby d_method_6_17) (q := 30) (by decide) (by decide) (by decide) ?_
    refine cI X0 hx (hb hby d_method_6_30) (q := 31) rfl (z := (2 : Int32)) rfl ?_
    refine iL X0 hx (hb hby d_method_6_31) (q := 32) rfl rfl ?_
    refine icN X0 hx (hb hby d_method_6_32) (q := 35) rfl (by decide) ?_
    refine aL X0 hx (hb hby d_method_6_35) (q := 36) rfl rfl rfl ?_
    refine cI X0 hx (hb hby d_method_6_36) (q := 37) rfl (z := (2 : Int32)) rfl ?_
    refine g_ldC X0 hx hZ0 PS (i := 2) (by decide) (by decide) (by decide) (v := (.int c2)) rfl e0 (hb hby d_method_6_37) (q := 38) rfl ?_
    refine bI X0 hx (hb hby d_method_6_38) (q := 40) rfl (z := (32 : Int32)) rfl ?_
    by_cases hc51 : (32 : Int32) < c2
    · refine icN X0 hx (hb hby d_method_6_40) (q := 43) rfl (tlt hc51).2.2.2 ?_
      refine cI X0 hx (hb hby d_method_6_43) (q := 44) rfl (z := (3 : Int32)) rfl ?_
      refine castGo (g' := mkF m 44 #[.val (.ref s1), .val (iv 3)] [(.int (lse c0 c1 c2 c3 c4 (3 : Int32)))]) (by rw [(show (lse c0 c1 c2 c3 c4 (3 : Int32)) = (3 : Int32) from ((if_neg (fun q => absurd q.1 (by decide))).trans ((if_neg (fun q => absurd q.1 (by decide))).trans (if_pos ⟨by decide, hc51⟩))))]) ?_
      refine endP X0 hlk (fun h => by rw [hret] at h; cases h) (lastI X0 hx hret (hb hby d_method_6_44)) ?_ (by decide) (by decide)
      rw [e0]
      exact ⟨rfl, N0, rfl⟩
    · refine icY X0 hx (hb hby d_method_6_40) (q := 45) (by decide) (by decide) (flt hc51).2.2.2 ?_
      refine cI X0 hx (hb hby d_method_6_45) (q := 46) rfl (z := (1 : Int32)) rfl ?_
      refine iL X0 hx (hb hby d_method_6_46) (q := 47) rfl rfl ?_
      refine icN X0 hx (hb hby d_method_6_47) (q := 50) rfl (by decide) ?_
      refine aL X0 hx (hb hby d_method_6_50) (q := 51) rfl rfl rfl ?_
      refine cI X0 hx (hb hby d_method_6_51) (q := 52) rfl (z := (1 : Int32)) rfl ?_
      refine g_ldC X0 hx hZ0 PS (i := 1) (by decide) (by decide) (by decide) (v := (.int c1)) rfl e0 (hb hby d_method_6_52) (q := 53) rfl ?_
      refine bI X0 hx (hb hby d_method_6_53) (q := 55) rfl (z := (32 : Int32)) rfl ?_
      by_cases hc52 : (32 : Int32) < c1
      · refine icN X0 hx (hb hby d_method_6_55) (q := 58) rfl (tlt hc52).2.2.2 ?_
        refine cI X0 hx (hb hby d_method_6_58) (q := 59) rfl (z := (2 : Int32)) rfl ?_
        refine castGo (g' := mkF m 59 #[.val (.ref s1), .val (iv 3)] [(.int (lse c0 c1 c2 c3 c4 (3 : Int32)))]) (by rw [(show (lse c0 c1 c2 c3 c4 (3 : Int32)) = (2 : Int32) from ((if_neg (fun q => absurd q.1 (by decide))).trans ((if_neg (fun q => absurd q.1 (by decide))).trans ((if_neg (fun q => hc51 q.2)).trans (if_pos ⟨by decide, hc52⟩)))))]) ?_
        refine endP X0 hlk (fun h => by rw [hret] at h; cases h) (lastI X0 hx hret (hb hby d_method_6_59)) ?_ (by decide) (by decide)
        rw [e0]
        exact ⟨rfl, N0, rfl⟩
      · refine icY X0 hx (hb hby d_method_6_55) (q := 60) (by decide) (by decide) (flt hc52).2.2.2 ?_
        refine cI X0 hx (hb hby d_method_6_60) (q := 61) rfl (z := (0 : Int32)) rfl ?_
        refine iL X0 hx (hb hby d_method_6_61) (q := 62) rfl rfl ?_
        refine icN X0 hx (hb hby d_method_6_62) (q := 65) rfl (by decide) ?_
        refine aL X0 hx (hb hby d_method_6_65) (q := 66) rfl rfl rfl ?_
        refine cI X0 hx (hb hby d_method_6_66) (q := 67) rfl (z := (0 : Int32)) rfl ?_
        refine g_ldC X0 hx hZ0 PS (i := 0) (by decide) (by decide) (by decide) (v := (.int c0)) rfl e0 (hb hby d_method_6_67) (q := 68) rfl ?_
        refine bI X0 hx (hb hby d_method_6_68) (q := 70) rfl (z := (32 : Int32)) rfl ?_
        by_cases hc53 : (32 : Int32) < c0
        · refine icN X0 hx (hb hby d_method_6_70) (q := 73) rfl (tlt hc53).2.2.2 ?_
          refine cI X0 hx (hb hby d_method_6_73) (q := 74) rfl (z := (1 : Int32)) rfl ?_
          refine castGo (g' := mkF m 74 #[.val (.ref s1), .val (iv 3)] [(.int (lse c0 c1 c2 c3 c4 (3 : Int32)))]) (by rw [(show (lse c0 c1 c2 c3 c4 (3 : Int32)) = (1 : Int32) from ((if_neg (fun q => absurd q.1 (by decide))).trans ((if_neg (fun q => absurd q.1 (by decide))).trans ((if_neg (fun q => hc51 q.2)).trans ((if_neg (fun q => hc52 q.2)).trans (if_pos ⟨by decide, hc53⟩))))))]) ?_
          refine endP X0 hlk (fun h => by rw [hret] at h; cases h) (lastI X0 hx hret (hb hby d_method_6_74)) ?_ (by decide) (by decide)
          rw [e0]
          exact ⟨rfl, N0, rfl⟩
        · refine icY X0 hx (hb hby d_method_6_70) (q := 75) (by decide) (by decide) (flt hc53).2.2.2 ?_
          refine cI X0 hx (hb hby d_method_6_75) (q := 76) rfl (z := (0 : Int32)) rfl ?_
          refine castGo (g' := mkF m 76 #[.val (.ref s1), .val (iv 3)] [(.int (lse c0 c1 c2 c3 c4 (3 : Int32)))]) (by rw [(show (lse c0 c1 c2 c3 c4 (3 : Int32)) = (0 : Int32) from ((if_neg (fun q => absurd q.1 (by decide))).trans ((if_neg (fun q => absurd q.1 (by decide))).trans ((if_neg (fun q => hc51 q.2)).trans ((if_neg (fun q => hc52 q.2)).trans (if_neg (fun q => hc53 q.2)))))))]) ?_
          refine endP X0 hlk (fun h => by rw [hret] at h; cases h) (lastI X0 hx hret (hb hby d_method_6_76)) ?_ (by decide) (by decide)
          rw [e0]
          exact ⟨rfl, N0, rfl⟩
  · rw [hk46]
    show Go _ _ _ _ (T0.setTop (mkF m 0 #[.val (.ref s1), .val (iv 4)] []))
    refine cI X0 hx (hb hby d_method_6_0) (q := 1) rfl (z := (4 : Int32)) rfl ?_
    refine iL X0 hx (hb hby d_method_6_1) (q := 2) rfl rfl ?_
    refine icY X0 hx (hb hby d_method_6_2) (q := 15) (by decide) (by decide) (by decide) ?_
    refine cI X0 hx (hb hby d_method_6_15) (q := 16) rfl (z := (3 : Int32)) rfl ?_
    refine iL X0 hx (hb hby d_method_6_16) (q := 17) rfl rfl ?_
    refine icN X0 hx (hb hby d_method_6_17) (q := 20) rfl (by decide) ?_
    refine aL X0 hx (hb hby d_method_6_20) (q := 21) rfl rfl rfl ?_
    refine cI X0 hx (hb hby d_method_6_21) (q := 22) rfl (z := (3 : Int32)) rfl ?_
    refine g_ldC X0 hx hZ0 PS (i := 3) (by decide) (by decide) (by decide) (v := (.int c3)) rfl e0 (hb hby d_method_6_22) (q := 23) rfl ?_
    refine bI X0 hx (hb hby d_method_6_23) (q := 25) rfl (z := (32 : Int32)) rfl ?_
    by_cases hc54 : (32 : Int32) < c3
    · refine icN X0 hx (hb hby d_method_6_25) (q := 28) rfl (tlt hc54).2.2.2 ?_
      refine cI X0 hx (hb hby d_method_6_28) (q := 29) rfl (z := (4 : Int32)) rfl ?_
      refine castGo (g' := mkF m 29 #[.val (.ref s1), .val (iv 4)] [(.int (lse c0 c1 c2 c3 c4 (4 : Int32)))]) (by rw [(show (lse c0 c1 c2 c3 c4 (4 : Int32)) = (4 : Int32) from ((if_neg (fun q => absurd q.1 (by decide))).trans (if_pos ⟨by decide, hc54⟩)))]) ?_
      refine endP X0 hlk (fun h => by rw [hret] at h; cases h) (lastI X0 hx hret (hb hby d_method_6_29)) ?_ (by decide) (by decide)
      rw [e0]
      exact ⟨rfl, N0, rfl⟩
    · refine icY X0 hx (hb hby d_method_6_25) (q := 30) (by decide) (by decide) (flt hc54).2.2.2 ?_
      refine cI X0 hx (hb hby d_method_6_30) (q := 31) rfl (z := (2 : Int32)) rfl ?_
      refine iL X0 hx (hb hby d_method_6_31) (q := 32) rfl rfl ?_
      refine icN X0 hx (hb hby d_method_6_32) (q := 35) rfl (by decide) ?_
      refine aL X0 hx (hb hby d_method_6_35) (q := 36) rfl rfl rfl ?_
      refine cI X0 hx (hb hby d_method_6_36) (q := 37) rfl (z := (2 : Int32)) rfl ?_
      refine g_ldC X0 hx hZ0 PS (i := 2) (by decide) (by decide) (by decide) (v := (.int c2)) rfl e0 (hb hby d_method_6_37) (q := 38) rfl ?_
      refine bI X0 hx (hb hby d_method_6_38) (q := 40) rfl (z := (32 : Int32)) rfl ?_
      by_cases hc55 : (32 : Int32) < c2
      · refine icN X0 hx (hb hby d_method_6_40) (q := 43) rfl (tlt hc55).2.2.2 ?_
        refine cI X0 hx (hb hby d_method_6_43) (q := 44) rfl (z := (3 : Int32)) rfl ?_
        refine castGo (g' := mkF m 44 #[.val (.ref s1), .val (iv 4)] [(.int (lse c0 c1 c2 c3 c4 (4 : Int32)))]) (by rw [(show (lse c0 c1 c2 c3 c4 (4 : Int32)) = (3 : Int32) from ((if_neg (fun q => absurd q.1 (by decide))).trans ((if_neg (fun q => hc54 q.2)).trans (if_pos ⟨by decide, hc55⟩))))]) ?_
        refine endP X0 hlk (fun h => by rw [hret] at h; cases h) (lastI X0 hx hret (hb hby d_method_6_44)) ?_ (by decide) (by decide)
        rw [e0]
        exact ⟨rfl, N0, rfl⟩
      · refine icY X0 hx (hb hby d_method_6_40) (q := 45) (by decide) (by decide) (flt hc55).2.2.2 ?_
        refine cI X0 hx (hb hby d_method_6_45) (q := 46) rfl (z := (1 : Int32)) rfl ?_
        refine iL X0 hx (hb hby d_method_6_46) (q := 47) rfl rfl ?_
        refine icN X0 hx (hb hby d_method_6_47) (q := 50) rfl (by decide) ?_
        refine aL X0 hx (hb hby d_method_6_50) (q := 51) rfl rfl rfl ?_
        refine cI X0 hx (hb hby d_method_6_51) (q := 52) rfl (z := (1 : Int32)) rfl ?_
        refine g_ldC X0 hx hZ0 PS (i := 1) (by decide) (by decide) (by decide) (v := (.int c1)) rfl e0 (hb hby d_method_6_52) (q := 53) rfl ?_
        refine bI X0 hx (hb hby d_method_6_53) (q := 55) rfl (z := (32 : Int32)) rfl ?_
        by_cases hc56 : (32 : Int32) < c1
        · refine icN X0 hx (hb hby d_method_6_55) (q := 58) rfl (tlt hc56).2.2.2 ?_
          refine cI X0 hx (hb hby d_method_6_58) (q := 59) rfl (z := (2 : Int32)) rfl ?_
          refine castGo (g' := mkF m 59 #[.val (.ref s1), .val (iv 4)] [(.int (lse c0 c1 c2 c3 c4 (4 : Int32)))]) (by rw [(show (lse c0 c1 c2 c3 c4 (4 : Int32)) = (2 : Int32) from ((if_neg (fun q => absurd q.1 (by decide))).trans ((if_neg (fun q => hc54 q.2)).trans ((if_neg (fun q => hc55 q.2)).trans (if_pos ⟨by decide, hc56⟩)))))]) ?_
          refine endP X0 hlk (fun h => by rw [hret] at h; cases h) (lastI X0 hx hret (hb hby d_method_6_59)) ?_ (by decide) (by decide)
          rw [e0]
          exact ⟨rfl, N0, rfl⟩
        · refine icY X0 hx (hb hby d_method_6_55) (q := 60) (by decide) (by decide) (flt hc56).2.2.2 ?_
          refine cI X0 hx (hb hby d_method_6_60) (q := 61) rfl (z := (0 : Int32)) rfl ?_
          refine iL X0 hx (hb hby d_method_6_61) (q := 62) rfl rfl ?_
          refine icN X0 hx (hb hby d_method_6_62) (q := 65) rfl (by decide) ?_
          refine aL X0 hx (hb hby d_method_6_65) (q := 66) rfl rfl rfl ?_
          refine cI X0 hx (hb hby d_method_6_66) (q := 67) rfl (z := (0 : Int32)) rfl ?_
          refine g_ldC X0 hx hZ0 PS (i := 0) (by decide) (by decide) (by decide) (v := (.int c0)) rfl e0 (hb hby d_method_6_67) (q := 68) rfl ?_
          refine bI X0 hx (hb hby d_method_6_68) (q := 70) rfl (z := (32 : Int32)) rfl ?_
          by_cases hc57 : (32 : Int32) < c0
          · refine icN X0 hx (hb hby d_method_6_70) (q := 73) rfl (tlt hc57).2.2.2 ?_
            refine cI X0 hx (hb hby d_method_6_73) (q := 74) rfl (z := (1 : Int32)) rfl ?_
            refine castGo (g' := mkF m 74 #[.val (.ref s1), .val (iv 4)] [(.int (lse c0 c1 c2 c3 c4 (4 : Int32)))]) (by rw [(show (lse c0 c1 c2 c3 c4 (4 : Int32)) = (1 : Int32) from ((if_neg (fun q => absurd q.1 (by decide))).trans ((if_neg (fun q => hc54 q.2)).trans ((if_neg (fun q => hc55 q.2)).trans ((if_neg (fun q => hc56 q.2)).trans (if_pos ⟨by decide, hc57⟩))))))]) ?_
            refine endP X0 hlk (fun h => by rw [hret] at h; cases h) (lastI X0 hx hret (hb hby d_method_6_74)) ?_ (by decide) (by decide)
            rw [e0]
            exact ⟨rfl, N0, rfl⟩
          · refine icY X0 hx (hb hby d_method_6_70) (q := 75) (by decide) (by decide) (flt hc57).2.2.2 ?_
            refine cI X0 hx (hb hby d_method_6_75) (q := 76) rfl (z := (0 : Int32)) rfl ?_
            refine castGo (g' := mkF m 76 #[.val (.ref s1), .val (iv 4)] [(.int (lse c0 c1 c2 c3 c4 (4 : Int32)))]) (by rw [(show (lse c0 c1 c2 c3 c4 (4 : Int32)) = (0 : Int32) from ((if_neg (fun q => absurd q.1 (by decide))).trans ((if_neg (fun q => hc54 q.2)).trans ((if_neg (fun q => hc55 q.2)).trans ((if_neg (fun q => hc56 q.2)).trans (if_neg (fun q => hc57 q.2)))))))]) ?_
            refine endP X0 hlk (fun h => by rw [hret] at h; cases h) (lastI X0 hx hret (hb hby d_method_6_76)) ?_ (by decide) (by decide)
            rw [e0]
            exact ⟨rfl, N0, rfl⟩
  · rw [hk47]
    show Go _ _ _ _ (T0.setTop (mkF m 0 #[.val (.ref s1), .val (iv 5)] []))
    refine cI X0 hx (hb hby d_method_6_0) (q := 1) rfl (z := (4 : Int32)) rfl ?_
    refine iL X0 hx (hb hby d_method_6_1) (q := 2) rfl rfl ?_
    refine icN X0 hx (hb hby d_method_6_2) (q := 5) rfl (by decide) ?_
    refine aL X0 hx (hb hby d_method_6_5) (q := 6) rfl rfl rfl ?_
    refine cI X0 hx (hb hby d_method_6_6) (q := 7) rfl (z := (4 : Int32)) rfl ?_
    refine g_ldC X0 hx hZ0 PS (i := 4) (by decide) (by decide) (by decide) (v := (.int c4)) rfl e0 (hb hby d_method_6_7) (q := 8) rfl ?_
    refine bI X0 hx (hb hby d_method_6_8) (q := 10) rfl (z := (32 : Int32)) rfl ?_
    by_cases hc58 : (32 : Int32) < c4
    · refine icN X0 hx (hb hby d_method_6_10) (q := 13) rfl (tlt hc58).2.2.2 ?_
      refine cI X0 hx (hb hby d_method_6_13) (q := 14) rfl (z := (5 : Int32)) rfl ?_
      refine castGo (g' := mkF m 14 #[.val (.ref s1), .val (iv 5)] [(.int (lse c0 c1 c2 c3 c4 (5 : Int32)))]) (by rw [(show (lse c0 c1 c2 c3 c4 (5 : Int32)) = (5 : Int32) from (if_pos ⟨by decide, hc58⟩))]) ?_
      refine endP X0 hlk (fun h => by rw [hret] at h; cases h) (lastI X0 hx hret (hb hby d_method_6_14)) ?_ (by decide) (by decide)
      rw [e0]
      exact ⟨rfl, N0, rfl⟩
    · refine icY X0 hx (hb hby d_method_6_10) (q := 15) (by decide) (by decide) (flt hc58).2.2.2 ?_
      refine cI X0 hx (hb hby d_method_6_15) (q := 16) rfl (z := (3 : Int32)) rfl ?_
      refine iL X0 hx (hb hby d_method_6_16) (q := 17) rfl rfl ?_
      refine icN X0 hx (hb hby d_method_6_17) (q := 20) rfl (by decide) ?_
      refine aL X0 hx (hb hby d_method_6_20) (q := 21) rfl rfl rfl ?_
      refine cI X0 hx (hb hby d_method_6_21) (q := 22) rfl (z := (3 : Int32)) rfl ?_
      refine g_ldC X0 hx hZ0 PS (i := 3) (by decide) (by decide) (by decide) (v := (.int c3)) rfl e0 (hb hby d_method_6_22) (q := 23) rfl ?_
      refine bI X0 hx (hb hby d_method_6_23) (q := 25) rfl (z := (32 : Int32)) rfl ?_
      by_cases hc59 : (32 : Int32) < c3
      · refine icN X0 hx (hb hby d_method_6_25) (q := 28) rfl (tlt hc59).2.2.2 ?_
        refine cI X0 hx (hb hby d_method_6_28) (q := 29) rfl (z := (4 : Int32)) rfl ?_
        refine castGo (g' := mkF m 29 #[.val (.ref s1), .val (iv 5)] [(.int (lse c0 c1 c2 c3 c4 (5 : Int32)))]) (by rw [(show (lse c0 c1 c2 c3 c4 (5 : Int32)) = (4 : Int32) from ((if_neg (fun q => hc58 q.2)).trans (if_pos ⟨by decide, hc59⟩)))]) ?_
        refine endP X0 hlk (fun h => by rw [hret] at h; cases h) (lastI X0 hx hret (hb hby d_method_6_29)) ?_ (by decide) (by decide)
        rw [e0]
        exact ⟨rfl, N0, rfl⟩
      · refine icY X0 hx (hb hby d_method_6_25) (q := 30) (by decide) (by decide) (flt hc59).2.2.2 ?_
        refine cI X0 hx (hb hby d_method_6_30) (q := 31) rfl (z := (2 : Int32)) rfl ?_
        refine iL X0 hx (hb hby d_method_6_31) (q := 32) rfl rfl ?_
        refine icN X0 hx (hb hby d_method_6_32) (q := 35) rfl (by decide) ?_
        refine aL X0 hx (hb hby d_method_6_35) (q := 36) rfl rfl rfl ?_
        refine cI X0 hx (hb hby d_method_6_36) (q := 37) rfl (z := (2 : Int32)) rfl ?_
        refine g_ldC X0 hx hZ0 PS (i := 2) (by decide) (by decide) (by decide) (v := (.int c2)) rfl e0 (hb hby d_method_6_37) (q := 38) rfl ?_
        refine bI X0 hx (hb hby d_method_6_38) (q := 40) rfl (z := (32 : Int32)) rfl ?_
        by_cases hc60 : (32 : Int32) < c2
        · refine icN X0 hx (hb hby d_method_6_40) (q := 43) rfl (tlt hc60).2.2.2 ?_
          refine cI X0 hx (hb hby d_method_6_43) (q := 44) rfl (z := (3 : Int32)) rfl ?_
          refine castGo (g' := mkF m 44 #[.val (.ref s1), .val (iv 5)] [(.int (lse c0 c1 c2 c3 c4 (5 : Int32)))]) (by rw [(show (lse c0 c1 c2 c3 c4 (5 : Int32)) = (3 : Int32) from ((if_neg (fun q => hc58 q.2)).trans ((if_neg (fun q => hc59 q.2)).trans (if_pos ⟨by decide, hc60⟩))))]) ?_
          refine endP X0 hlk (fun h => by rw [hret] at h; cases h) (lastI X0 hx hret (hb hby d_method_6_44)) ?_ (by decide) (by decide)
          rw [e0]
          exact ⟨rfl, N0, rfl⟩
        · refine icY X0 hx (hb hby d_method_6_40) (q := 45) (by decide) (by decide) (flt hc60).2.2.2 ?_
          refine cI X0 hx (hb hby d_method_6_45) (q := 46) rfl (z := (1 : Int32)) rfl ?_
          refine iL X0 hx (hb hby d_method_6_46) (q := 47) rfl rfl ?_
          refine icN X0 hx (hb hby d_method_6_47) (q := 50) rfl (by decide) ?_
          refine aL X0 hx (hb hby d_method_6_50) (q := 51) rfl rfl rfl ?_
          refine cI X0 hx (hb hby d_method_6_51) (q := 52) rfl (z := (1 : Int32)) rfl ?_
          refine g_ldC X0 hx hZ0 PS (i := 1) (by decide) (by decide) (by decide) (v := (.int c1)) rfl e0 (hb hby d_method_6_52) (q := 53) rfl ?_
          refine bI X0 hx (hb hby d_method_6_53) (q := 55) rfl (z := (32 : Int32)) rfl ?_
          by_cases hc61 : (32 : Int32) < c1
          · refine icN X0 hx (hb hby d_method_6_55) (q := 58) rfl (tlt hc61).2.2.2 ?_
            refine cI X0 hx (hb hby d_method_6_58) (q := 59) rfl (z := (2 : Int32)) rfl ?_
            refine castGo (g' := mkF m 59 #[.val (.ref s1), .val (iv 5)] [(.int (lse c0 c1 c2 c3 c4 (5 : Int32)))]) (by rw [(show (lse c0 c1 c2 c3 c4 (5 : Int32)) = (2 : Int32) from ((if_neg (fun q => hc58 q.2)).trans ((if_neg (fun q => hc59 q.2)).trans ((if_neg (fun q => hc60 q.2)).trans (if_pos ⟨by decide, hc61⟩)))))]) ?_
            refine endP X0 hlk (fun h => by rw [hret] at h; cases h) (lastI X0 hx hret (hb hby d_method_6_59)) ?_ (by decide) (by decide)
            rw [e0]
            exact ⟨rfl, N0, rfl⟩
          · refine icY X0 hx (hb hby d_method_6_55) (q := 60) (by decide) (by decide) (flt hc61).2.2.2 ?_
            refine cI X0 hx (hb hby d_method_6_60) (q := 61) rfl (z := (0 : Int32)) rfl ?_
            refine iL X0 hx (hb hby d_method_6_61) (q := 62) rfl rfl ?_
            refine icN X0 hx (hb hby d_method_6_62) (q := 65) rfl (by decide) ?_
            refine aL X0 hx (hb hby d_method_6_65) (q := 66) rfl rfl rfl ?_
            refine cI X0 hx (hb hby d_method_6_66) (q := 67) rfl (z := (0 : Int32)) rfl ?_
            refine g_ldC X0 hx hZ0 PS (i := 0) (by decide) (by decide) (by decide) (v := (.int c0)) rfl e0 (hb hby d_method_6_67) (q := 68) rfl ?_
            refine bI X0 hx (hb hby d_method_6_68) (q := 70) rfl (z := (32 : Int32)) rfl ?_
            by_cases hc62 : (32 : Int32) < c0
            · refine icN X0 hx (hb hby d_method_6_70) (q := 73) rfl (tlt hc62).2.2.2 ?_
              refine cI X0 hx (hb hby d_method_6_73) (q := 74) rfl (z := (1 : Int32)) rfl ?_
              refine castGo (g' := mkF m 74 #[.val (.ref s1), .val (iv 5)] [(.int (lse c0 c1 c2 c3 c4 (5 : Int32)))]) (by rw [(show (lse c0 c1 c2 c3 c4 (5 : Int32)) = (1 : Int32) from ((if_neg (fun q => hc58 q.2)).trans ((if_neg (fun q => hc59 q.2)).trans ((if_neg (fun q => hc60 q.2)).trans ((if_neg (fun q => hc61 q.2)).trans (if_pos ⟨by decide, hc62⟩))))))]) ?_
              refine endP X0 hlk (fun h => by rw [hret] at h; cases h) (lastI X0 hx hret (hb hby d_method_6_74)) ?_ (by decide) (by decide)
              rw [e0]
              exact ⟨rfl, N0, rfl⟩
            · refine icY X0 hx (hb hby d_method_6_70) (q := 75) (by decide) (by decide) (flt hc62).2.2.2 ?_
              refine cI X0 hx (hb hby d_method_6_75) (q := 76) rfl (z := (0 : Int32)) rfl ?_
              refine castGo (g' := mkF m 76 #[.val (.ref s1), .val (iv 5)] [(.int (lse c0 c1 c2 c3 c4 (5 : Int32)))]) (by rw [(show (lse c0 c1 c2 c3 c4 (5 : Int32)) = (0 : Int32) from ((if_neg (fun q => hc58 q.2)).trans ((if_neg (fun q => hc59 q.2)).trans ((if_neg (fun q => hc60 q.2)).trans ((if_neg (fun q => hc61 q.2)).trans (if_neg (fun q => hc62 q.2)))))))]) ?_
              refine endP X0 hlk (fun h => by rw [hret] at h; cases h) (lastI X0 hx hret (hb hby d_method_6_76)) ?_ (by decide) (by decide)
              rw [e0]
              exact ⟨rfl, N0, rfl⟩
theorem d_jdk_42m152_0 : decode jdk_42_method_152_code 0 = .ok (.getstatic 38, 3) := by decide +kernel
theorem wd31 {a0 : Array Value} {Z : State} (hw : HW a0 Z) : ((Jvm.Cond.fieldLink "java/lang/String" (38 : Nat) "java/lang/String" "COMPACT_STRINGS" "Z") : Jvm.Cond).before a0 Z = true := hw _ (List.mem_of_getElem? (i := 31) rfl)
theorem d_jdk_42m152_3 : decode jdk_42_method_152_code 3 = .ok (.ifCond .eq 10, 3) := by decide +kernel
theorem d_jdk_42m152_6 : decode jdk_42_method_152_code 6 = .ok (.aload_n 0, 1) := by decide +kernel
theorem d_jdk_42m152_7 : decode jdk_42_method_152_code 7 = .ok (.getfield 15, 3) := by decide +kernel
theorem wd43 {a0 : Array Value} {Z : State} (hw : HW a0 Z) : ((Jvm.Cond.fieldLink "java/lang/String" (15 : Nat) "java/lang/String" "coder" "B") : Jvm.Cond).before a0 Z = true := hw _ (List.mem_of_getElem? (i := 43) rfl)
theorem d_jdk_42m152_10 : decode jdk_42_method_152_code 10 = .ok (.goto 4, 3) := by decide +kernel
theorem d_jdk_42m152_14 : decode jdk_42_method_152_code 14 = .ok (.ireturn, 1) := by decide +kernel
def Q_coder0 (Z : State) (zC : Int32) (vF : Value) (aI : Addr) (aR : Addr) (a1 : Addr) (h0 : Heap) (v : Option Value) (h : Heap) (L : List Loc) : Prop := v = some (iv 0) ∧ Fr Z.heap.size L ∧ h = h0
theorem pn3 : plainName "java/lang/String" = true := by first | (simp [plainName, overriddenIn]; done) | decide +kernel
theorem rm_coder0 (l : Launch) (Z : State) (a0 : Array Value) (hw : HW a0 Z) (zC : Int32) (SC : tSC Z zC) (PC : ¬ zC = (0 : Int32)) (vF : Value) (rF : vF = .null ∨ ∃ a, vF = .ref a) (SF : tSF Z vF) (aI : Addr) (SI : tSI Z aI) (aR : Addr) (SR : tSR Z aR) (a1 : Addr) (h0 : Heap) (O0 : Old Z Z.heap.size h0) (P1 : Fld Z h0 a1 sT0 "coder" "B" (iv 0)) :
    Con l Z (⟨sT0, "coder", "()B"⟩ : MethodName) jdk_42_method_152_code 1 (some .byte) ({ frames := 0, cells := 0, slots := 0, locals := 0 } : Room) #[(.ref a1)] h0 (Q_coder0 Z zC vF aI aR a1 h0) := by
  refine Con.intro (plainFor_of_name pn3) ?_
  intro p e s m below meth c T0 X0 hx hby hml hown0 hnm hret hlk hZ0 e0
  have N0 := Fr.nil Z.heap.size
  refine castGo (g' := mkF m 0 #[.val (.ref a1)] []) (by first | rfl | (simp [entryFrame, mkF, argsToLocals, Value.category]; done)) ?_
  show Go _ _ _ _ (T0.setTop (mkF m 0 #[.val (.ref a1)] []))
  refine g_getS X0 hx hZ0 hown0 (host := "") (Or.inl (wd31 hw)) Via.refl (SC.ext O0.2) e0 (hb hby d_jdk_42m152_0) (q := 3) rfl ?_
  intro T63 X63 e63
  refine ifN X63 hx (hb hby d_jdk_42m152_3) (q := 6) rfl ((if0 _ _).trans (feq PC).1) ?_
  refine aL X63 hx (hb hby d_jdk_42m152_6) (q := 7) rfl rfl rfl ?_
  refine g_getF X63 hx hZ0 hown0 (host := "") (Or.inl (wd43 hw)) Via.refl P1 e63 (hb hby d_jdk_42m152_7) (q := 10) rfl ?_
  intro T64 X64 e64
  refine g_goto X64 hx (hb hby d_jdk_42m152_10) (q := 14) (by decide) (by decide) ?_
  refine endP X64 hlk (fun h => by rw [hret] at h; cases h) (lastN X64 hx (t := .byte) (z' := (0 : Int32)) hret (by simp) (by decide) (hb hby d_jdk_42m152_14)) ?_ (by decide) (by decide)
  rw [e64]
  exact ⟨rfl, N0, rfl⟩
theorem d_jdk_42m54_0 : decode jdk_42_method_54_code 0 = .ok (.aload_n 0, 1) := by decide +kernel
theorem d_jdk_42m54_1 : decode jdk_42_method_54_code 1 = .ok (.getfield 9, 3) := by decide +kernel
theorem wd45 {a0 : Array Value} {Z : State} (hw : HW a0 Z) : ((Jvm.Cond.fieldLink "java/lang/String" (9 : Nat) "java/lang/String" "value" "[B") : Jvm.Cond).before a0 Z = true := hw _ (List.mem_of_getElem? (i := 45) rfl)
theorem d_jdk_42m54_4 : decode jdk_42_method_54_code 4 = .ok (.arraylength, 1) := by decide +kernel
theorem d_jdk_42m54_5 : decode jdk_42_method_54_code 5 = .ok (.aload_n 0, 1) := by decide +kernel
theorem d_jdk_42m54_6 : decode jdk_42_method_54_code 6 = .ok (.invokevirtual 335, 3) := by decide +kernel
theorem wd75 {a0 : Array Value} {Z : State} (hw : HW a0 Z) : ((Jvm.Cond.code ({ cls := "java/lang/String", name := "coder", desc := "()B" } : Jvm.MethodName) jdk_42_method_152_code (1 : Nat) (Option.some Jvm.ClassFile.FieldType.byte)) : Jvm.Cond).before a0 Z = true := hw _ (List.mem_of_getElem? (i := 75) rfl)
theorem wd20 {a0 : Array Value} {Z : State} (hw : HW a0 Z) : ((Jvm.Cond.initialized "java/lang/String") : Jvm.Cond).before a0 Z = true := hw _ (List.mem_of_getElem? (i := 20) rfl)
theorem pd0 : parseMethodDescriptor "()B" = some ⟨[], some .byte⟩ := by decide +kernel
theorem wd74 {a0 : Array Value} {Z : State} (hw : HW a0 Z) : ((Jvm.Cond.selects "java/lang/String" ({ cls := "java/lang/String", name := "coder", desc := "()B" } : Jvm.MethodName) ({ cls := "java/lang/String", name := "coder", desc := "()B" } : Jvm.MethodName)) : Jvm.Cond).before a0 Z = true := hw _ (List.mem_of_getElem? (i := 74) rfl)
theorem wd71 {a0 : Array Value} {Z : State} (hw : HW a0 Z) : ((Jvm.Cond.methodLink "java/lang/String" (335 : Nat) ({ cls := "java/lang/String", name := "coder", desc := "()B" } : Jvm.MethodName)) : Jvm.Cond).before a0 Z = true := hw _ (List.mem_of_getElem? (i := 71) rfl)
theorem wd72 {a0 : Array Value} {Z : State} (hw : HW a0 Z) : ((Jvm.Cond.declares ({ cls := "java/lang/String", name := "coder", desc := "()B" } : Jvm.MethodName)) : Jvm.Cond).before a0 Z = true := hw _ (List.mem_of_getElem? (i := 72) rfl)
theorem wd73 {a0 : Array Value} {Z : State} (hw : HW a0 Z) : ((Jvm.Cond.instanceMethod ({ cls := "java/lang/String", name := "coder", desc := "()B" } : Jvm.MethodName)) : Jvm.Cond).before a0 Z = true := hw _ (List.mem_of_getElem? (i := 73) rfl)
theorem d_jdk_42m54_9 : decode jdk_42_method_54_code 9 = .ok (.ishr, 1) := by decide +kernel
theorem d_jdk_42m54_10 : decode jdk_42_method_54_code 10 = .ok (.ireturn, 1) := by decide +kernel
def Q_slen (Z : State) (zC : Int32) (vF : Value) (aI : Addr) (aR : Addr) (a1 : Addr) (t : Addr) (kb : ClassId) (us : List Value) (zz : Int32) (h0 : Heap) (v : Option Value) (h : Heap) (L : List Loc) : Prop := v = some (.int zz) ∧ Fr Z.heap.size L ∧ h = h0
theorem rm_slen (l : Launch) (Z : State) (a0 : Array Value) (hw : HW a0 Z) (zC : Int32) (SC : tSC Z zC) (PC : ¬ zC = (0 : Int32)) (vF : Value) (rF : vF = .null ∨ ∃ a, vF = .ref a) (SF : tSF Z vF) (aI : Addr) (SI : tSI Z aI) (aR : Addr) (SR : tSR Z aR) (a1 : Addr) (t : Addr) (kb : ClassId) (us : List Value) (zz : Int32) (h0 : Heap) (O0 : Old Z Z.heap.size h0) (Pe : Exa Z h0 a1 sT0) (Pc : Fld Z h0 a1 sT0 "coder" "B" (iv 0)) (Pv : Fld Z h0 a1 sT0 "value" "[B" (.ref t)) (Pa : Arv Z h0 t kb .byte zz us (.int 0)) :
    Con l Z (⟨sT0, "length", "()I"⟩ : MethodName) jdk_42_method_54_code 1 (some .int) ({ frames := 1, cells := 0, slots := 0, locals := 13 } : Room) #[(.ref a1)] h0 (Q_slen Z zC vF aI aR a1 t kb us zz h0) := by
  refine Con.intro (plainFor_of_name pn3) ?_
  intro p e s m below meth c T0 X0 hx hby hml hown0 hnm hret hlk hZ0 e0
  have N0 := Fr.nil Z.heap.size
  refine castGo (g' := mkF m 0 #[.val (.ref a1)] []) (by first | rfl | (simp [entryFrame, mkF, argsToLocals, Value.category]; done)) ?_
  show Go _ _ _ _ (T0.setTop (mkF m 0 #[.val (.ref a1)] []))
  refine aL X0 hx (hb hby d_jdk_42m54_0) (q := 1) rfl rfl rfl ?_
  refine g_getF X0 hx hZ0 hown0 (host := "") (Or.inl (wd45 hw)) Via.refl Pv e0 (hb hby d_jdk_42m54_1) (q := 4) rfl ?_
  intro T65 X65 e65
  refine g_len X65 hx hZ0 Pa e65 (hb hby d_jdk_42m54_4) (q := 5) rfl ?_
  refine aL X65 hx (hb hby d_jdk_42m54_5) (q := 6) rfl rfl rfl ?_
  refine g_vi X65 hx hZ0 hown0 (wd71 hw) (wd72 hw) (notFace_of_selects (args := #[]) (mvT hZ0 (wd74 hw))) (wd74 hw) (wd73 hw) (by decide) Pe e65 (Con.back (W := 1) (rm_coder0 l Z a0 hw zC SC PC vF rF SF aI SI aR SR a1 h0 O0 Pc) hZ0 (wd75 hw) (wd20 hw) (by decide) (by decide)) (by rw [hml]; rfl) (lenOf pd0 rfl) rfl (Nat.le_of_eq rfl) (hb hby d_jdk_42m54_6) (q := 9) rfl (by decide) (by decide) ?_
  intro v66 T66 L66 X66 Q66
  obtain ⟨rfl, Nq66, e66⟩ := Q66
  have N66 := Fr.app N0 Nq66
  show Go _ _ _ _ (T66.setTop (mkF m 9 #[.val (.ref a1)] [(iv 0), (.int zz)]))
  refine g_ishr X66 hx (hb hby d_jdk_42m54_9) (q := 10) rfl (z := zz) (shr_zero _) ?_
  refine endP X66 hlk (fun h => by rw [hret] at h; cases h) (lastI X66 hx hret (hb hby d_jdk_42m54_10)) ?_ (by decide) (by decide)
  rw [e66]
  exact ⟨rfl, N66, rfl⟩
theorem d_jdk_42m154_0 : decode jdk_42_method_154_code 0 = .ok (.getstatic 38, 3) := by decide +kernel
theorem d_jdk_42m154_3 : decode jdk_42_method_154_code 3 = .ok (.ifCond .eq 14, 3) := by decide +kernel
theorem d_jdk_42m154_6 : decode jdk_42_method_154_code 6 = .ok (.aload_n 0, 1) := by decide +kernel
theorem d_jdk_42m154_7 : decode jdk_42_method_154_code 7 = .ok (.getfield 15, 3) := by decide +kernel
theorem d_jdk_42m154_10 : decode jdk_42_method_154_code 10 = .ok (.ifCond .ne 7, 3) := by decide +kernel
theorem d_jdk_42m154_13 : decode jdk_42_method_154_code 13 = .ok (.iconst 1, 1) := by decide +kernel
theorem d_jdk_42m154_14 : decode jdk_42_method_154_code 14 = .ok (.goto 4, 3) := by decide +kernel
theorem d_jdk_42m154_18 : decode jdk_42_method_154_code 18 = .ok (.ireturn, 1) := by decide +kernel
def Q_isl0 (Z : State) (zC : Int32) (vF : Value) (aI : Addr) (aR : Addr) (a1 : Addr) (h0 : Heap) (v : Option Value) (h : Heap) (L : List Loc) : Prop := v = some (iv 1) ∧ Fr Z.heap.size L ∧ h = h0
theorem rm_isl0 (l : Launch) (Z : State) (a0 : Array Value) (hw : HW a0 Z) (zC : Int32) (SC : tSC Z zC) (PC : ¬ zC = (0 : Int32)) (vF : Value) (rF : vF = .null ∨ ∃ a, vF = .ref a) (SF : tSF Z vF) (aI : Addr) (SI : tSI Z aI) (aR : Addr) (SR : tSR Z aR) (a1 : Addr) (h0 : Heap) (O0 : Old Z Z.heap.size h0) (P1 : Fld Z h0 a1 sT0 "coder" "B" (iv 0)) :
    Con l Z (⟨sT0, "isLatin1", "()Z"⟩ : MethodName) jdk_42_method_154_code 1 (some .boolean) ({ frames := 0, cells := 0, slots := 0, locals := 0 } : Room) #[(.ref a1)] h0 (Q_isl0 Z zC vF aI aR a1 h0) := by
  refine Con.intro (plainFor_of_name pn3) ?_
  intro p e s m below meth c T0 X0 hx hby hml hown0 hnm hret hlk hZ0 e0
  have N0 := Fr.nil Z.heap.size
  refine castGo (g' := mkF m 0 #[.val (.ref a1)] []) (by first | rfl | (simp [entryFrame, mkF, argsToLocals, Value.category]; done)) ?_
  show Go _ _ _ _ (T0.setTop (mkF m 0 #[.val (.ref a1)] []))
  refine g_getS X0 hx hZ0 hown0 (host := "") (Or.inl (wd31 hw)) Via.refl (SC.ext O0.2) e0 (hb hby d_jdk_42m154_0) (q := 3) rfl ?_
  intro T67 X67 e67
  refine ifN X67 hx (hb hby d_jdk_42m154_3) (q := 6) rfl ((if0 _ _).trans (feq PC).1) ?_
  refine aL X67 hx (hb hby d_jdk_42m154_6) (q := 7) rfl rfl rfl ?_
  refine g_getF X67 hx hZ0 hown0 (host := "") (Or.inl (wd43 hw)) Via.refl P1 e67 (hb hby d_jdk_42m154_7) (q := 10) rfl ?_
  intro T68 X68 e68
  refine ifN X68 hx (hb hby d_jdk_42m154_10) (q := 13) rfl (by decide) ?_
  refine cI X68 hx (hb hby d_jdk_42m154_13) (q := 14) rfl (z := (1 : Int32)) rfl ?_
  refine g_goto X68 hx (hb hby d_jdk_42m154_14) (q := 18) (by decide) (by decide) ?_
  refine endP X68 hlk (fun h => by rw [hret] at h; cases h) (lastN X68 hx (t := .boolean) (z' := (1 : Int32)) hret (by simp) (by decide) (hb hby d_jdk_42m154_18)) ?_ (by decide) (by decide)
  rw [e68]
  exact ⟨rfl, N0, rfl⟩
theorem d_jdk_29m65_0 : decode jdk_29_method_65_code 0 = .ok (.iload_n 0, 1) := by decide +kernel
theorem d_jdk_29m65_1 : decode jdk_29_method_65_code 1 = .ok (.iload_n 1, 1) := by decide +kernel
theorem d_jdk_29m65_2 : decode jdk_29_method_65_code 2 = .ok (.if_icmp .lt 7, 3) := by decide +kernel
theorem d_jdk_29m65_5 : decode jdk_29_method_65_code 5 = .ok (.iload_n 0, 1) := by decide +kernel
theorem d_jdk_29m65_6 : decode jdk_29_method_65_code 6 = .ok (.goto 4, 3) := by decide +kernel
theorem d_jdk_29m65_10 : decode jdk_29_method_65_code 10 = .ok (.ireturn, 1) := by decide +kernel
def Q_mx0 (Z : State) (zC : Int32) (vF : Value) (aI : Addr) (aR : Addr) (h0 : Heap) (v : Option Value) (h : Heap) (L : List Loc) : Prop := v = some (iv 0) ∧ Fr Z.heap.size L ∧ h = h0
theorem pf4 : plainFor (⟨"java/lang/Math", "max", "(II)I"⟩ : MethodName) = true := by decide +kernel
theorem rm_mx0 (l : Launch) (Z : State) (a0 : Array Value) (hw : HW a0 Z) (zC : Int32) (SC : tSC Z zC) (PC : ¬ zC = (0 : Int32)) (vF : Value) (rF : vF = .null ∨ ∃ a, vF = .ref a) (SF : tSF Z vF) (aI : Addr) (SI : tSI Z aI) (aR : Addr) (SR : tSR Z aR)  (h0 : Heap) (O0 : Old Z Z.heap.size h0)  :
    Con l Z (⟨"java/lang/Math", "max", "(II)I"⟩ : MethodName) jdk_29_method_65_code 2 (some .int) ({ frames := 0, cells := 0, slots := 0, locals := 0 } : Room) #[(iv 0), (iv 0)] h0 (Q_mx0 Z zC vF aI aR h0) := by
  refine Con.intro pf4 ?_
  intro p e s m below meth c T0 X0 hx hby hml hown0 hnm hret hlk hZ0 e0
  have N0 := Fr.nil Z.heap.size
  refine castGo (g' := mkF m 0 #[.val (iv 0), .val (iv 0)] []) (by first | rfl | (simp [entryFrame, mkF, argsToLocals, Value.category]; done)) ?_
  show Go _ _ _ _ (T0.setTop (mkF m 0 #[.val (iv 0), .val (iv 0)] []))
  refine iL X0 hx (hb hby d_jdk_29m65_0) (q := 1) rfl rfl ?_
  refine iL X0 hx (hb hby d_jdk_29m65_1) (q := 2) rfl rfl ?_
  refine icN X0 hx (hb hby d_jdk_29m65_2) (q := 5) rfl (by decide) ?_
  refine iL X0 hx (hb hby d_jdk_29m65_5) (q := 6) rfl rfl ?_
  refine g_goto X0 hx (hb hby d_jdk_29m65_6) (q := 10) (by decide) (by decide) ?_
  refine endP X0 hlk (fun h => by rw [hret] at h; cases h) (lastI X0 hx hret (hb hby d_jdk_29m65_10)) ?_ (by decide) (by decide)
  rw [e0]
  exact ⟨rfl, N0, rfl⟩
theorem d_jdk_29m69_0 : decode jdk_29_method_69_code 0 = .ok (.iload_n 0, 1) := by decide +kernel
theorem d_jdk_29m69_1 : decode jdk_29_method_69_code 1 = .ok (.iload_n 1, 1) := by decide +kernel
theorem d_jdk_29m69_2 : decode jdk_29_method_69_code 2 = .ok (.if_icmp .gt 7, 3) := by decide +kernel
theorem d_jdk_29m69_5 : decode jdk_29_method_69_code 5 = .ok (.iload_n 0, 1) := by decide +kernel
theorem d_jdk_29m69_6 : decode jdk_29_method_69_code 6 = .ok (.goto 4, 3) := by decide +kernel
theorem d_jdk_29m69_10 : decode jdk_29_method_69_code 10 = .ok (.ireturn, 1) := by decide +kernel
def Q_mn5 (Z : State) (zC : Int32) (vF : Value) (aI : Addr) (aR : Addr) (h0 : Heap) (v : Option Value) (h : Heap) (L : List Loc) : Prop := v = some (iv 5) ∧ Fr Z.heap.size L ∧ h = h0
theorem pf5 : plainFor (⟨"java/lang/Math", "min", "(II)I"⟩ : MethodName) = true := by decide +kernel
theorem rm_mn5 (l : Launch) (Z : State) (a0 : Array Value) (hw : HW a0 Z) (zC : Int32) (SC : tSC Z zC) (PC : ¬ zC = (0 : Int32)) (vF : Value) (rF : vF = .null ∨ ∃ a, vF = .ref a) (SF : tSF Z vF) (aI : Addr) (SI : tSI Z aI) (aR : Addr) (SR : tSR Z aR)  (h0 : Heap) (O0 : Old Z Z.heap.size h0)  :
    Con l Z (⟨"java/lang/Math", "min", "(II)I"⟩ : MethodName) jdk_29_method_69_code 2 (some .int) ({ frames := 0, cells := 0, slots := 0, locals := 0 } : Room) #[(iv 5), (iv 5)] h0 (Q_mn5 Z zC vF aI aR h0) := by
  refine Con.intro pf5 ?_
  intro p e s m below meth c T0 X0 hx hby hml hown0 hnm hret hlk hZ0 e0
  have N0 := Fr.nil Z.heap.size
  refine castGo (g' := mkF m 0 #[.val (iv 5), .val (iv 5)] []) (by first | rfl | (simp [entryFrame, mkF, argsToLocals, Value.category]; done)) ?_
  show Go _ _ _ _ (T0.setTop (mkF m 0 #[.val (iv 5), .val (iv 5)] []))
  refine iL X0 hx (hb hby d_jdk_29m69_0) (q := 1) rfl rfl ?_
  refine iL X0 hx (hb hby d_jdk_29m69_1) (q := 2) rfl rfl ?_
  refine icN X0 hx (hb hby d_jdk_29m69_2) (q := 5) rfl (by decide) ?_
  refine iL X0 hx (hb hby d_jdk_29m69_5) (q := 6) rfl rfl ?_
  refine g_goto X0 hx (hb hby d_jdk_29m69_6) (q := 10) (by decide) (by decide) ?_
  refine endP X0 hlk (fun h => by rw [hret] at h; cases h) (lastI X0 hx hret (hb hby d_jdk_29m69_10)) ?_ (by decide) (by decide)
  rw [e0]
  exact ⟨rfl, N0, rfl⟩
theorem d_jdk_29m65_9 : decode jdk_29_method_65_code 9 = .ok (.iload_n 1, 1) := by decide +kernel
def Q_imx (Z : State) (zC : Int32) (vF : Value) (aI : Addr) (aR : Addr) (x0 : Int32) (h0 : Heap) (v : Option Value) (h : Heap) (L : List Loc) : Prop := v = some (.int (imx (0 : Int32) x0)) ∧ Fr Z.heap.size L ∧ h = h0
theorem rm_imx (l : Launch) (Z : State) (a0 : Array Value) (hw : HW a0 Z) (zC : Int32) (SC : tSC Z zC) (PC : ¬ zC = (0 : Int32)) (vF : Value) (rF : vF = .null ∨ ∃ a, vF = .ref a) (SF : tSF Z vF) (aI : Addr) (SI : tSI Z aI) (aR : Addr) (SR : tSR Z aR) (x0 : Int32) (h0 : Heap) (O0 : Old Z Z.heap.size h0)  :
    Con l Z (⟨"java/lang/Math", "max", "(II)I"⟩ : MethodName) jdk_29_method_65_code 2 (some .int) ({ frames := 0, cells := 0, slots := 0, locals := 0 } : Room) #[(iv 0), (.int x0)] h0 (Q_imx Z zC vF aI aR x0 h0) := by
  refine Con.intro pf4 ?_
  intro p e s m below meth c T0 X0 hx hby hml hown0 hnm hret hlk hZ0 e0
  have N0 := Fr.nil Z.heap.size
  refine castGo (g' := mkF m 0 #[.val (iv 0), .val (.int x0)] []) (by first | rfl | (simp [entryFrame, mkF, argsToLocals, Value.category]; done)) ?_
  show Go _ _ _ _ (T0.setTop (mkF m 0 #[.val (iv 0), .val (.int x0)] []))
  refine iL X0 hx (hb hby d_jdk_29m65_0) (q := 1) rfl rfl ?_
  refine iL X0 hx (hb hby d_jdk_29m65_1) (q := 2) rfl rfl ?_
  by_cases hc69 : (0 : Int32) < x0
  · refine icY X0 hx (hb hby d_jdk_29m65_2) (q := 9) (by decide) (by decide) (tlt hc69).1 ?_
    refine iL X0 hx (hb hby d_jdk_29m65_9) (q := 10) rfl rfl ?_
    refine castGo (g' := mkF m 10 #[.val (iv 0), .val (.int x0)] [(.int (imx (0 : Int32) x0))]) (by rw [(show (imx (0 : Int32) x0) = x0 from (if_pos hc69))]) ?_
    refine endP X0 hlk (fun h => by rw [hret] at h; cases h) (lastI X0 hx hret (hb hby d_jdk_29m65_10)) ?_ (by decide) (by decide)
    rw [e0]
    exact ⟨rfl, N0, rfl⟩
  · refine icN X0 hx (hb hby d_jdk_29m65_2) (q := 5) rfl (flt hc69).1 ?_
    refine iL X0 hx (hb hby d_jdk_29m65_5) (q := 6) rfl rfl ?_
    refine g_goto X0 hx (hb hby d_jdk_29m65_6) (q := 10) (by decide) (by decide) ?_
    refine castGo (g' := mkF m 10 #[.val (iv 0), .val (.int x0)] [(.int (imx (0 : Int32) x0))]) (by rw [(show (imx (0 : Int32) x0) = (0 : Int32) from (if_neg hc69))]) ?_
    refine endP X0 hlk (fun h => by rw [hret] at h; cases h) (lastI X0 hx hret (hb hby d_jdk_29m65_10)) ?_ (by decide) (by decide)
    rw [e0]
    exact ⟨rfl, N0, rfl⟩
def ixf (e : Int32) : Int32 := if e = 5 then -1 else e
theorem lo59 {c : Int32} (h0 : ¬ c < 0) (h1 : ¬ (255 : Int32) < c) (h : (StrChars.lo8 c) = 59) : c = 59 := all256 (P := fun c => (StrChars.lo8 c) = 59 → c = 59) (by decide +kernel) h0 h1 h
theorem lo59n {c : Int32} (h : ¬ (StrChars.lo8 c) = 59) : ¬ c = 59 := fun q => h (by subst q; decide)
theorem asc (a b : Int32) : a + b - a = b := by
  apply Int32.toInt_inj.mp
  have h1 := c_iadd a b
  have h2 := c_isub (a + b) a
  have r := rng32 b
  have r2 := rng32 (a + b - a)
  omega
theorem d_jdk_43m23_0 : decode jdk_43_method_23_code 0 = .ok (.iload_n 1, 1) := by decide +kernel
theorem d_jdk_43m23_1 : decode jdk_43_method_23_code 1 = .ok (.i2b, 1) := by decide +kernel
theorem d_jdk_43m23_2 : decode jdk_43_method_23_code 2 = .ok (.istore 4, 2) := by decide +kernel
theorem d_jdk_43m23_4 : decode jdk_43_method_23_code 4 = .ok (.iload_n 2, 1) := by decide +kernel
theorem d_jdk_43m23_5 : decode jdk_43_method_23_code 5 = .ok (.istore 5, 2) := by decide +kernel
theorem d_jdk_43m23_7 : decode jdk_43_method_23_code 7 = .ok (.iload 5, 2) := by decide +kernel
theorem d_jdk_43m23_9 : decode jdk_43_method_23_code 9 = .ok (.iload_n 3, 1) := by decide +kernel
theorem d_jdk_43m23_10 : decode jdk_43_method_23_code 10 = .ok (.if_icmp .ge 21, 3) := by decide +kernel
theorem d_jdk_43m23_13 : decode jdk_43_method_23_code 13 = .ok (.aload_n 0, 1) := by decide +kernel
theorem d_jdk_43m23_14 : decode jdk_43_method_23_code 14 = .ok (.iload 5, 2) := by decide +kernel
theorem d_jdk_43m23_16 : decode jdk_43_method_23_code 16 = .ok (.baload, 1) := by decide +kernel
theorem d_jdk_43m23_17 : decode jdk_43_method_23_code 17 = .ok (.iload 4, 2) := by decide +kernel
theorem d_jdk_43m23_19 : decode jdk_43_method_23_code 19 = .ok (.if_icmp .ne 6, 3) := by decide +kernel
theorem d_jdk_43m23_22 : decode jdk_43_method_23_code 22 = .ok (.iload 5, 2) := by decide +kernel
theorem d_jdk_43m23_24 : decode jdk_43_method_23_code 24 = .ok (.ireturn, 1) := by decide +kernel
theorem d_jdk_43m23_25 : decode jdk_43_method_23_code 25 = .ok (.iinc 5 1, 3) := by decide +kernel
theorem d_jdk_43m23_28 : decode jdk_43_method_23_code 28 = .ok (.goto (-21), 3) := by decide +kernel
theorem d_jdk_43m23_31 : decode jdk_43_method_23_code 31 = .ok (.iconst (-1), 1) := by decide +kernel
theorem d_jdk_43m23_32 : decode jdk_43_method_23_code 32 = .ok (.ireturn, 1) := by decide +kernel
def Q_ioc (Z : State) (zC : Int32) (vF : Value) (aI : Addr) (aR : Addr) (t : Addr) (kb : ClassId) (c0 : Int32) (c1 : Int32) (c2 : Int32) (c3 : Int32) (c4 : Int32) (h0 : Heap) (v : Option Value) (h : Heap) (L : List Loc) : Prop := v = some (.int (ixf (fse c0 c1 c2 c3 c4))) ∧ Fr Z.heap.size L ∧ h = h0
theorem rm_ioc (l : Launch) (Z : State) (a0 : Array Value) (hw : HW a0 Z) (zC : Int32) (SC : tSC Z zC) (PC : ¬ zC = (0 : Int32)) (vF : Value) (rF : vF = .null ∨ ∃ a, vF = .ref a) (SF : tSF Z vF) (aI : Addr) (SI : tSI Z aI) (aR : Addr) (SR : tSR Z aR) (t : Addr) (kb : ClassId) (c0 : Int32) (c1 : Int32) (c2 : Int32) (c3 : Int32) (c4 : Int32) (h0 : Heap) (O0 : Old Z Z.heap.size h0) (PB : Arv Z h0 t kb .byte (5 : Int32) [(.int (StrChars.lo8 c0)), (.int (StrChars.lo8 c1)), (.int (StrChars.lo8 c2)), (.int (StrChars.lo8 c3)), (.int (StrChars.lo8 c4))] (.int 0)) (H0 : (¬ (c0 < (0 : Int32)))) (J0 : (¬ ((255 : Int32) < c0))) (H1 : (¬ (c1 < (0 : Int32)))) (J1 : (¬ ((255 : Int32) < c1))) (H2 : (¬ (c2 < (0 : Int32)))) (J2 : (¬ ((255 : Int32) < c2))) (H3 : (¬ (c3 < (0 : Int32)))) (J3 : (¬ ((255 : Int32) < c3))) (H4 : (¬ (c4 < (0 : Int32)))) (J4 : (¬ ((255 : Int32) < c4))) :
    Con l Z (⟨"java/lang/StringLatin1", "indexOfChar", "([BIII)I"⟩ : MethodName) jdk_43_method_23_code 6 (some .int) ({ frames := 0, cells := 0, slots := 0, locals := 0 } : Room) #[(.ref t), (iv 59), (iv 0), (iv 5)] h0 (Q_ioc Z zC vF aI aR t kb c0 c1 c2 c3 c4 h0) := by
  refine Con.intro (plainFor_of_name pn2) ?_
  intro p e s m below meth c T0 X0 hx hby hml hown0 hnm hret hlk hZ0 e0
  have N0 := Fr.nil Z.heap.size
  refine castGo (g' := mkF m 0 #[.val (.ref t), .val (iv 59), .val (iv 0), .val (iv 5), .unset, .unset] []) (by first | rfl | (simp [entryFrame, mkF, argsToLocals, Value.category]; done)) ?_
  show Go _ _ _ _ (T0.setTop (mkF m 0 #[.val (.ref t), .val (iv 59), .val (iv 0), .val (iv 5), .unset, .unset] []))
  refine iL X0 hx (hb hby d_jdk_43m23_0) (q := 1) rfl rfl ?_
  refine g_i2b X0 hx (hb hby d_jdk_43m23_1) (q := 2) rfl (z := (59 : Int32)) (by decide) ?_
  refine sIw X0 hx (hb hby d_jdk_43m23_2) (q := 4) rfl (Ls' := #[.val (.ref t), .val (iv 59), .val (iv 0), .val (iv 5), .val (iv 59), .unset]) rfl ?_
  refine iL X0 hx (hb hby d_jdk_43m23_4) (q := 5) rfl rfl ?_
  refine sIw X0 hx (hb hby d_jdk_43m23_5) (q := 7) rfl (Ls' := #[.val (.ref t), .val (iv 59), .val (iv 0), .val (iv 5), .val (iv 59), .val (iv 0)]) rfl ?_
  refine iLw X0 hx (hb hby d_jdk_43m23_7) (q := 9) rfl rfl ?_
  refine iL X0 hx (hb hby d_jdk_43m23_9) (q := 10) rfl rfl ?_
  refine icN X0 hx (hb hby d_jdk_43m23_10) (q := 13) rfl (by decide) ?_
  refine aL X0 hx (hb hby d_jdk_43m23_13) (q := 14) rfl rfl rfl ?_
  refine iLw X0 hx (hb hby d_jdk_43m23_14) (q := 16) rfl rfl ?_
  refine g_ldB X0 hx hZ0 PB (i := 0) (by decide) (by decide) (by decide) (v := (.int (StrChars.lo8 c0))) rfl e0 (hb hby d_jdk_43m23_16) (q := 17) rfl ?_
  refine iLw X0 hx (hb hby d_jdk_43m23_17) (q := 19) rfl rfl ?_
  by_cases hc70 : (StrChars.lo8 c0) = (59 : Int32)
  · refine icN X0 hx (hb hby d_jdk_43m23_19) (q := 22) rfl (teq hc70).2 ?_
    refine iLw X0 hx (hb hby d_jdk_43m23_22) (q := 24) rfl rfl ?_
    refine castGo (g' := mkF m 24 #[.val (.ref t), .val (iv 59), .val (iv 0), .val (iv 5), .val (iv 59), .val (iv 0)] [(.int (ixf (fse c0 c1 c2 c3 c4)))]) (by rw [(show (ixf (fse c0 c1 c2 c3 c4)) = (0 : Int32) from by rw [show fse c0 c1 c2 c3 c4 = (0 : Int32) from (if_pos (lo59 H0 J0 hc70))]; decide)]) ?_
    refine endP X0 hlk (fun h => by rw [hret] at h; cases h) (lastI X0 hx hret (hb hby d_jdk_43m23_24)) ?_ (by decide) (by decide)
    rw [e0]
    exact ⟨rfl, N0, rfl⟩
  · refine icY X0 hx (hb hby d_jdk_43m23_19) (q := 25) (by decide) (by decide) (feq hc70).2 ?_
    refine g_iinc X0 hx (hb hby d_jdk_43m23_25) (q := 28) rfl rfl (z := (1 : Int32)) (by decide) (Ls' := #[.val (.ref t), .val (iv 59), .val (iv 0), .val (iv 5), .val (iv 59), .val (iv 1)]) rfl ?_
    refine g_goto X0 hx (hb hby d_jdk_43m23_28) (q := 7) (by decide) (by decide) ?_
    refine iLw X0 hx (hb hby d_jdk_43m23_7) (q := 9) rfl rfl ?_
    refine iL X0 hx (hb hby d_jdk_43m23_9) (q := 10) rfl rfl ?_
    refine icN X0 hx (hb hby d_jdk_43m23_10) (q := 13) rfl (by decide) ?_
    refine aL X0 hx (hb hby d_jdk_43m23_13) (q := 14) rfl rfl rfl ?_
    refine iLw X0 hx (hb hby d_jdk_43m23_14) (q := 16) rfl rfl ?_
    refine g_ldB X0 hx hZ0 PB (i := 1) (by decide) (by decide) (by decide) (v := (.int (StrChars.lo8 c1))) rfl e0 (hb hby d_jdk_43m23_16) (q := 17) rfl ?_
    refine iLw X0 hx (hb hby d_jdk_43m23_17) (q := 19) rfl rfl ?_
    by_cases hc71 : (StrChars.lo8 c1) = (59 : Int32)
    · refine icN X0 hx (hb hby d_jdk_43m23_19) (q := 22) rfl (teq hc71).2 ?_
      refine iLw X0 hx (hb hby d_jdk_43m23_22) (q := 24) rfl rfl ?_
      refine castGo (g' := mkF m 24 #[.val (.ref t), .val (iv 59), .val (iv 0), .val (iv 5), .val (iv 59), .val (iv 1)] [(.int (ixf (fse c0 c1 c2 c3 c4)))]) (by rw [(show (ixf (fse c0 c1 c2 c3 c4)) = (1 : Int32) from by rw [show fse c0 c1 c2 c3 c4 = (1 : Int32) from ((if_neg (lo59n hc70)).trans (if_pos (lo59 H1 J1 hc71)))]; decide)]) ?_
      refine endP X0 hlk (fun h => by rw [hret] at h; cases h) (lastI X0 hx hret (hb hby d_jdk_43m23_24)) ?_ (by decide) (by decide)
      rw [e0]
      exact ⟨rfl, N0, rfl⟩
    · refine icY X0 hx (hb hby d_jdk_43m23_19) (q := 25) (by decide) (by decide) (feq hc71).2 ?_
      refine g_iinc X0 hx (hb hby d_jdk_43m23_25) (q := 28) rfl rfl (z := (2 : Int32)) (by decide) (Ls' := #[.val (.ref t), .val (iv 59), .val (iv 0), .val (iv 5), .val (iv 59), .val (iv 2)]) rfl ?_
      refine g_goto X0 hx (hb hby d_jdk_43m23_28) (q := 7) (by decide) (by decide) ?_
      refine iLw X0 hx (hb hby d_jdk_43m23_7) (q := 9) rfl rfl ?_
      refine iL X0 hx (hb hby d_jdk_43m23_9) (q := 10) rfl rfl ?_
      refine icN X0 hx (hb hby d_jdk_43m23_10) (q := 13) rfl (by decide) ?_
      refine aL X0 hx (hb hby d_jdk_43m23_13) (q := 14) rfl rfl rfl ?_
      refine iLw X0 hx (hb hby d_jdk_43m23_14) (q := 16) rfl rfl ?_
      refine g_ldB X0 hx hZ0 PB (i := 2) (by decide) (by decide) (by decide) (v := (.int (StrChars.lo8 c2))) rfl e0 (hb hby d_jdk_43m23_16) (q := 17) rfl ?_
      refine iLw X0 hx (hb hby d_jdk_43m23_17) (q := 19) rfl rfl ?_
      by_cases hc72 : (StrChars.lo8 c2) = (59 : Int32)
      · refine icN X0 hx (hb hby d_jdk_43m23_19) (q := 22) rfl (teq hc72).2 ?_
        refine iLw X0 hx (hb hby d_jdk_43m23_22) (q := 24) rfl rfl ?_
        refine castGo (g' := mkF m 24 #[.val (.ref t), .val (iv 59), .val (iv 0), .val (iv 5), .val (iv 59), .val (iv 2)] [(.int (ixf (fse c0 c1 c2 c3 c4)))]) (by rw [(show (ixf (fse c0 c1 c2 c3 c4)) = (2 : Int32) from by rw [show fse c0 c1 c2 c3 c4 = (2 : Int32) from ((if_neg (lo59n hc70)).trans ((if_neg (lo59n hc71)).trans (if_pos (lo59 H2 J2 hc72))))]; decide)]) ?_
        refine endP X0 hlk (fun h => by rw [hret] at h; cases h) (lastI X0 hx hret (hb hby d_jdk_43m23_24)) ?_ (by decide) (by decide)
        rw [e0]
        exact ⟨rfl, N0, rfl⟩
      · refine icY X0 hx (hb hby d_jdk_43m23_19) (q := 25) (by decide) (by decide) (feq hc72).2 ?_
        refine g_iinc X0 hx (hb hby d_jdk_43m23_25) (q := 28) rfl rfl (z := (3 : Int32)) (by decide) (Ls' := #[.val (.ref t), .val (iv 59), .val (iv 0), .val (iv 5), .val (iv 59), .val (iv 3)]) rfl ?_
        refine g_goto X0 hx (hb hby d_jdk_43m23_28) (q := 7) (by decide) (by decide) ?_
        refine iLw X0 hx (hb hby d_jdk_43m23_7) (q := 9) rfl rfl ?_
        refine iL X0 hx (hb hby d_jdk_43m23_9) (q := 10) rfl rfl ?_
        refine icN X0 hx (hb hby d_jdk_43m23_10) (q := 13) rfl (by decide) ?_
        refine aL X0 hx (hb hby d_jdk_43m23_13) (q := 14) rfl rfl rfl ?_
        refine iLw X0 hx (hb hby d_jdk_43m23_14) (q := 16) rfl rfl ?_
        refine g_ldB X0 hx hZ0 PB (i := 3) (by decide) (by decide) (by decide) (v := (.int (StrChars.lo8 c3))) rfl e0 (hb hby d_jdk_43m23_16) (q := 17) rfl ?_
        refine iLw X0 hx (hb hby d_jdk_43m23_17) (q := 19) rfl rfl ?_
        by_cases hc73 : (StrChars.lo8 c3) = (59 : Int32)
        · refine icN X0 hx (hb hby d_jdk_43m23_19) (q := 22) rfl (teq hc73).2 ?_
          refine iLw X0 hx (hb hby d_jdk_43m23_22) (q := 24) rfl rfl ?_
          refine castGo (g' := mkF m 24 #[.val (.ref t), .val (iv 59), .val (iv 0), .val (iv 5), .val (iv 59), .val (iv 3)] [(.int (ixf (fse c0 c1 c2 c3 c4)))]) (by rw [(show (ixf (fse c0 c1 c2 c3 c4)) = (3 : Int32) from by rw [show fse c0 c1 c2 c3 c4 = (3 : Int32) from ((if_neg (lo59n hc70)).trans ((if_neg (lo59n hc71)).trans ((if_neg (lo59n hc72)).trans (if_pos (lo59 H3 J3 hc73)))))]; decide)]) ?_
          refine endP X0 hlk (fun h => by rw [hret] at h; cases h) (lastI X0 hx hret (hb hby d_jdk_43m23_24)) ?_ (by decide) (by decide)
          rw [e0]
          exact ⟨rfl, N0, rfl⟩
        · refine icY X0 hx (hb hby d_jdk_43m23_19) (q := 25) (by decide) (by decide) (feq hc73).2 ?_
          refine g_iinc X0 hx (hb hby d_jdk_43m23_25) (q := 28) rfl rfl (z := (4 : Int32)) (by decide) (Ls' := #[.val (.ref t), .val (iv 59), .val (iv 0), .val (iv 5), .val (iv 59), .val (iv 4)]) rfl ?_
          refine g_goto X0 hx (hb hby d_jdk_43m23_28) (q := 7) (by decide) (by decide) ?_
          refine iLw X0 hx (hb hby d_jdk_43m23_7) (q := 9) rfl rfl ?_
          refine iL X0 hx (hb hby d_jdk_43m23_9) (q := 10) rfl rfl ?_
          refine icN X0 hx (hb hby d_jdk_43m23_10) (q := 13) rfl (by decide) ?_
          refine aL X0 hx (hb hby d_jdk_43m23_13) (q := 14) rfl rfl rfl ?_
          refine iLw X0 hx (hb hby d_jdk_43m23_14) (q := 16) rfl rfl ?_
          refine g_ldB X0 hx hZ0 PB (i := 4) (by decide) (by decide) (by decide) (v := (.int (StrChars.lo8 c4))) rfl e0 (hb hby d_jdk_43m23_16) (q := 17) rfl ?_
          refine iLw X0 hx (hb hby d_jdk_43m23_17) (q := 19) rfl rfl ?_
          by_cases hc74 : (StrChars.lo8 c4) = (59 : Int32)
          · refine icN X0 hx (hb hby d_jdk_43m23_19) (q := 22) rfl (teq hc74).2 ?_
            refine iLw X0 hx (hb hby d_jdk_43m23_22) (q := 24) rfl rfl ?_
            refine castGo (g' := mkF m 24 #[.val (.ref t), .val (iv 59), .val (iv 0), .val (iv 5), .val (iv 59), .val (iv 4)] [(.int (ixf (fse c0 c1 c2 c3 c4)))]) (by rw [(show (ixf (fse c0 c1 c2 c3 c4)) = (4 : Int32) from by rw [show fse c0 c1 c2 c3 c4 = (4 : Int32) from ((if_neg (lo59n hc70)).trans ((if_neg (lo59n hc71)).trans ((if_neg (lo59n hc72)).trans ((if_neg (lo59n hc73)).trans (if_pos (lo59 H4 J4 hc74))))))]; decide)]) ?_
            refine endP X0 hlk (fun h => by rw [hret] at h; cases h) (lastI X0 hx hret (hb hby d_jdk_43m23_24)) ?_ (by decide) (by decide)
            rw [e0]
            exact ⟨rfl, N0, rfl⟩
          · refine icY X0 hx (hb hby d_jdk_43m23_19) (q := 25) (by decide) (by decide) (feq hc74).2 ?_
            refine g_iinc X0 hx (hb hby d_jdk_43m23_25) (q := 28) rfl rfl (z := (5 : Int32)) (by decide) (Ls' := #[.val (.ref t), .val (iv 59), .val (iv 0), .val (iv 5), .val (iv 59), .val (iv 5)]) rfl ?_
            refine g_goto X0 hx (hb hby d_jdk_43m23_28) (q := 7) (by decide) (by decide) ?_
            refine iLw X0 hx (hb hby d_jdk_43m23_7) (q := 9) rfl rfl ?_
            refine iL X0 hx (hb hby d_jdk_43m23_9) (q := 10) rfl rfl ?_
            refine icY X0 hx (hb hby d_jdk_43m23_10) (q := 31) (by decide) (by decide) (by decide) ?_
            refine cI X0 hx (hb hby d_jdk_43m23_31) (q := 32) rfl (z := (-1 : Int32)) rfl ?_
            refine castGo (g' := mkF m 32 #[.val (.ref t), .val (iv 59), .val (iv 0), .val (iv 5), .val (iv 59), .val (iv 5)] [(.int (ixf (fse c0 c1 c2 c3 c4)))]) (by rw [(show (ixf (fse c0 c1 c2 c3 c4)) = (-1 : Int32) from by rw [show fse c0 c1 c2 c3 c4 = (5 : Int32) from ((if_neg (lo59n hc70)).trans ((if_neg (lo59n hc71)).trans ((if_neg (lo59n hc72)).trans ((if_neg (lo59n hc73)).trans (if_neg (lo59n hc74))))))]; decide)]) ?_
            refine endP X0 hlk (fun h => by rw [hret] at h; cases h) (lastI X0 hx hret (hb hby d_jdk_43m23_32)) ?_ (by decide) (by decide)
            rw [e0]
            exact ⟨rfl, N0, rfl⟩
theorem d_jdk_43m22_0 : decode jdk_43_method_22_code 0 = .ok (.iload_n 1, 1) := by decide +kernel
theorem d_jdk_43m22_1 : decode jdk_43_method_22_code 1 = .ok (.invokestatic 88, 3) := by decide +kernel
theorem wd82 {a0 : Array Value} {Z : State} (hw : HW a0 Z) : ((Jvm.Cond.code ({ cls := "java/lang/StringLatin1", name := "canEncode", desc := "(I)Z" } : Jvm.MethodName) jdk_43_method_4_code (1 : Nat) (Option.some Jvm.ClassFile.FieldType.boolean)) : Jvm.Cond).before a0 Z = true := hw _ (List.mem_of_getElem? (i := 82) rfl)
theorem wd78 {a0 : Array Value} {Z : State} (hw : HW a0 Z) : ((Jvm.Cond.initialized "java/lang/StringLatin1") : Jvm.Cond).before a0 Z = true := hw _ (List.mem_of_getElem? (i := 78) rfl)
theorem pd1 : parseMethodDescriptor "(I)Z" = some ⟨[.int], some .boolean⟩ := by decide +kernel
theorem wd80 {a0 : Array Value} {Z : State} (hw : HW a0 Z) : ((Jvm.Cond.methodLink "java/lang/StringLatin1" (88 : Nat) ({ cls := "java/lang/StringLatin1", name := "canEncode", desc := "(I)Z" } : Jvm.MethodName)) : Jvm.Cond).before a0 Z = true := hw _ (List.mem_of_getElem? (i := 80) rfl)
theorem wd81 {a0 : Array Value} {Z : State} (hw : HW a0 Z) : ((Jvm.Cond.static ({ cls := "java/lang/StringLatin1", name := "canEncode", desc := "(I)Z" } : Jvm.MethodName)) : Jvm.Cond).before a0 Z = true := hw _ (List.mem_of_getElem? (i := 81) rfl)
theorem d_jdk_43m22_4 : decode jdk_43_method_22_code 4 = .ok (.ifCond .ne 5, 3) := by decide +kernel
theorem d_jdk_43m22_9 : decode jdk_43_method_22_code 9 = .ok (.iload_n 2, 1) := by decide +kernel
theorem d_jdk_43m22_10 : decode jdk_43_method_22_code 10 = .ok (.iconst 0, 1) := by decide +kernel
theorem d_jdk_43m22_11 : decode jdk_43_method_22_code 11 = .ok (.invokestatic 92, 3) := by decide +kernel
theorem wd17 {a0 : Array Value} {Z : State} (hw : HW a0 Z) : ((Jvm.Cond.code ({ cls := "java/lang/Math", name := "max", desc := "(II)I" } : Jvm.MethodName) jdk_29_method_65_code (2 : Nat) (Option.some Jvm.ClassFile.FieldType.int)) : Jvm.Cond).before a0 Z = true := hw _ (List.mem_of_getElem? (i := 17) rfl)
theorem wd16 {a0 : Array Value} {Z : State} (hw : HW a0 Z) : ((Jvm.Cond.initialized "java/lang/Math") : Jvm.Cond).before a0 Z = true := hw _ (List.mem_of_getElem? (i := 16) rfl)
theorem pd2 : parseMethodDescriptor "(II)I" = some ⟨[.int, .int], some .int⟩ := by decide +kernel
theorem wd83 {a0 : Array Value} {Z : State} (hw : HW a0 Z) : ((Jvm.Cond.methodLink "java/lang/StringLatin1" (92 : Nat) ({ cls := "java/lang/Math", name := "max", desc := "(II)I" } : Jvm.MethodName)) : Jvm.Cond).before a0 Z = true := hw _ (List.mem_of_getElem? (i := 83) rfl)
theorem wd15 {a0 : Array Value} {Z : State} (hw : HW a0 Z) : ((Jvm.Cond.static ({ cls := "java/lang/Math", name := "max", desc := "(II)I" } : Jvm.MethodName)) : Jvm.Cond).before a0 Z = true := hw _ (List.mem_of_getElem? (i := 15) rfl)
theorem d_jdk_43m22_14 : decode jdk_43_method_22_code 14 = .ok (.istore_n 2, 1) := by decide +kernel
theorem d_jdk_43m22_15 : decode jdk_43_method_22_code 15 = .ok (.iload_n 3, 1) := by decide +kernel
theorem d_jdk_43m22_16 : decode jdk_43_method_22_code 16 = .ok (.aload_n 0, 1) := by decide +kernel
theorem d_jdk_43m22_17 : decode jdk_43_method_22_code 17 = .ok (.arraylength, 1) := by decide +kernel
theorem d_jdk_43m22_18 : decode jdk_43_method_22_code 18 = .ok (.invokestatic 38, 3) := by decide +kernel
theorem wd86 {a0 : Array Value} {Z : State} (hw : HW a0 Z) : ((Jvm.Cond.code ({ cls := "java/lang/Math", name := "min", desc := "(II)I" } : Jvm.MethodName) jdk_29_method_69_code (2 : Nat) (Option.some Jvm.ClassFile.FieldType.int)) : Jvm.Cond).before a0 Z = true := hw _ (List.mem_of_getElem? (i := 86) rfl)
theorem wd84 {a0 : Array Value} {Z : State} (hw : HW a0 Z) : ((Jvm.Cond.methodLink "java/lang/StringLatin1" (38 : Nat) ({ cls := "java/lang/Math", name := "min", desc := "(II)I" } : Jvm.MethodName)) : Jvm.Cond).before a0 Z = true := hw _ (List.mem_of_getElem? (i := 84) rfl)
theorem wd85 {a0 : Array Value} {Z : State} (hw : HW a0 Z) : ((Jvm.Cond.static ({ cls := "java/lang/Math", name := "min", desc := "(II)I" } : Jvm.MethodName)) : Jvm.Cond).before a0 Z = true := hw _ (List.mem_of_getElem? (i := 85) rfl)
theorem d_jdk_43m22_21 : decode jdk_43_method_22_code 21 = .ok (.istore_n 3, 1) := by decide +kernel
theorem d_jdk_43m22_22 : decode jdk_43_method_22_code 22 = .ok (.iload_n 2, 1) := by decide +kernel
theorem d_jdk_43m22_23 : decode jdk_43_method_22_code 23 = .ok (.iload_n 3, 1) := by decide +kernel
theorem d_jdk_43m22_24 : decode jdk_43_method_22_code 24 = .ok (.if_icmp .lt 5, 3) := by decide +kernel
theorem d_jdk_43m22_29 : decode jdk_43_method_22_code 29 = .ok (.aload_n 0, 1) := by decide +kernel
theorem d_jdk_43m22_30 : decode jdk_43_method_22_code 30 = .ok (.iload_n 1, 1) := by decide +kernel
theorem d_jdk_43m22_31 : decode jdk_43_method_22_code 31 = .ok (.iload_n 2, 1) := by decide +kernel
theorem d_jdk_43m22_32 : decode jdk_43_method_22_code 32 = .ok (.iload_n 3, 1) := by decide +kernel
theorem d_jdk_43m22_33 : decode jdk_43_method_22_code 33 = .ok (.invokestatic 95, 3) := by decide +kernel
theorem wd89 {a0 : Array Value} {Z : State} (hw : HW a0 Z) : ((Jvm.Cond.code ({ cls := "java/lang/StringLatin1", name := "indexOfChar", desc := "([BIII)I" } : Jvm.MethodName) jdk_43_method_23_code (6 : Nat) (Option.some Jvm.ClassFile.FieldType.int)) : Jvm.Cond).before a0 Z = true := hw _ (List.mem_of_getElem? (i := 89) rfl)
theorem pd3 : parseMethodDescriptor "([BIII)I" = some ⟨[(.array .byte), .int, .int, .int], some .int⟩ := by decide +kernel
theorem wd87 {a0 : Array Value} {Z : State} (hw : HW a0 Z) : ((Jvm.Cond.methodLink "java/lang/StringLatin1" (95 : Nat) ({ cls := "java/lang/StringLatin1", name := "indexOfChar", desc := "([BIII)I" } : Jvm.MethodName)) : Jvm.Cond).before a0 Z = true := hw _ (List.mem_of_getElem? (i := 87) rfl)
theorem wd88 {a0 : Array Value} {Z : State} (hw : HW a0 Z) : ((Jvm.Cond.static ({ cls := "java/lang/StringLatin1", name := "indexOfChar", desc := "([BIII)I" } : Jvm.MethodName)) : Jvm.Cond).before a0 Z = true := hw _ (List.mem_of_getElem? (i := 88) rfl)
theorem d_jdk_43m22_36 : decode jdk_43_method_22_code 36 = .ok (.ireturn, 1) := by decide +kernel
def Q_io4 (Z : State) (zC : Int32) (vF : Value) (aI : Addr) (aR : Addr) (t : Addr) (kb : ClassId) (c0 : Int32) (c1 : Int32) (c2 : Int32) (c3 : Int32) (c4 : Int32) (h0 : Heap) (v : Option Value) (h : Heap) (L : List Loc) : Prop := v = some (.int (ixf (fse c0 c1 c2 c3 c4))) ∧ Fr Z.heap.size L ∧ h = h0
theorem rm_io4 (l : Launch) (Z : State) (a0 : Array Value) (hw : HW a0 Z) (zC : Int32) (SC : tSC Z zC) (PC : ¬ zC = (0 : Int32)) (vF : Value) (rF : vF = .null ∨ ∃ a, vF = .ref a) (SF : tSF Z vF) (aI : Addr) (SI : tSI Z aI) (aR : Addr) (SR : tSR Z aR) (t : Addr) (kb : ClassId) (c0 : Int32) (c1 : Int32) (c2 : Int32) (c3 : Int32) (c4 : Int32) (h0 : Heap) (O0 : Old Z Z.heap.size h0) (PB : Arv Z h0 t kb .byte (5 : Int32) [(.int (StrChars.lo8 c0)), (.int (StrChars.lo8 c1)), (.int (StrChars.lo8 c2)), (.int (StrChars.lo8 c3)), (.int (StrChars.lo8 c4))] (.int 0)) (H0 : (¬ (c0 < (0 : Int32)))) (J0 : (¬ ((255 : Int32) < c0))) (H1 : (¬ (c1 < (0 : Int32)))) (J1 : (¬ ((255 : Int32) < c1))) (H2 : (¬ (c2 < (0 : Int32)))) (J2 : (¬ ((255 : Int32) < c2))) (H3 : (¬ (c3 < (0 : Int32)))) (J3 : (¬ ((255 : Int32) < c3))) (H4 : (¬ (c4 < (0 : Int32)))) (J4 : (¬ ((255 : Int32) < c4))) :
    Con l Z (⟨"java/lang/StringLatin1", "indexOf", "([BIII)I"⟩ : MethodName) jdk_43_method_22_code 4 (some .int) ({ frames := 1, cells := 0, slots := 0, locals := 17 } : Room) #[(.ref t), (iv 59), (iv 0), (iv 5)] h0 (Q_io4 Z zC vF aI aR t kb c0 c1 c2 c3 c4 h0) := by
  refine Con.intro (plainFor_of_name pn2) ?_
  intro p e s m below meth c T0 X0 hx hby hml hown0 hnm hret hlk hZ0 e0
  have N0 := Fr.nil Z.heap.size
  refine castGo (g' := mkF m 0 #[.val (.ref t), .val (iv 59), .val (iv 0), .val (iv 5)] []) (by first | rfl | (simp [entryFrame, mkF, argsToLocals, Value.category]; done)) ?_
  show Go _ _ _ _ (T0.setTop (mkF m 0 #[.val (.ref t), .val (iv 59), .val (iv 0), .val (iv 5)] []))
  refine iL X0 hx (hb hby d_jdk_43m22_0) (q := 1) rfl rfl ?_
  refine g_st X0 hx hZ0 hown0 (wd80 hw) (wd81 hw) (wd78 hw) (wd82 hw) (by decide) e0 (Con.back (W := 0) (rm_cei59 l Z a0 hw zC SC PC vF rF SF aI SI aR SR  h0 O0 ) hZ0 (wd82 hw) (wd78 hw) (by decide) (by decide)) (by rw [hml]; rfl) (lenOf pd1 rfl) rfl (Nat.le_of_eq rfl) (hb hby d_jdk_43m22_1) (q := 4) rfl (by decide) (by decide) ?_
  intro v75 T75 L75 X75 Q75
  obtain ⟨rfl, Nq75, e75⟩ := Q75
  have N75 := Fr.app N0 Nq75
  show Go _ _ _ _ (T75.setTop (mkF m 4 #[.val (.ref t), .val (iv 59), .val (iv 0), .val (iv 5)] [(iv 1)]))
  refine ifY X75 hx (hb hby d_jdk_43m22_4) (q := 9) (by decide) (by decide) (by decide) ?_
  refine iL X75 hx (hb hby d_jdk_43m22_9) (q := 10) rfl rfl ?_
  refine cI X75 hx (hb hby d_jdk_43m22_10) (q := 11) rfl (z := (0 : Int32)) rfl ?_
  refine g_st X75 hx hZ0 hown0 (wd83 hw) (wd15 hw) (wd16 hw) (wd17 hw) (by decide) e75 (Con.back (W := 0) (rm_mx0 l Z a0 hw zC SC PC vF rF SF aI SI aR SR  h0 O0 ) hZ0 (wd17 hw) (wd16 hw) (by decide) (by decide)) (by rw [hml]; rfl) (lenOf pd2 rfl) rfl (Nat.le_of_eq rfl) (hb hby d_jdk_43m22_11) (q := 14) rfl (by decide) (by decide) ?_
  intro v76 T76 L76 X76 Q76
  obtain ⟨rfl, Nq76, e76⟩ := Q76
  have N76 := Fr.app N75 Nq76
  show Go _ _ _ _ (T76.setTop (mkF m 14 #[.val (.ref t), .val (iv 59), .val (iv 0), .val (iv 5)] [(iv 0)]))
  refine sI X76 hx (hb hby d_jdk_43m22_14) (q := 15) rfl (Ls' := #[.val (.ref t), .val (iv 59), .val (iv 0), .val (iv 5)]) rfl ?_
  refine iL X76 hx (hb hby d_jdk_43m22_15) (q := 16) rfl rfl ?_
  refine aL X76 hx (hb hby d_jdk_43m22_16) (q := 17) rfl rfl rfl ?_
  refine g_len X76 hx hZ0 PB e76 (hb hby d_jdk_43m22_17) (q := 18) rfl ?_
  refine g_st X76 hx hZ0 hown0 (wd84 hw) (wd85 hw) (wd16 hw) (wd86 hw) (by decide) e76 (Con.back (W := 0) (rm_mn5 l Z a0 hw zC SC PC vF rF SF aI SI aR SR  h0 O0 ) hZ0 (wd86 hw) (wd16 hw) (by decide) (by decide)) (by rw [hml]; rfl) (lenOf pd2 rfl) rfl (Nat.le_of_eq rfl) (hb hby d_jdk_43m22_18) (q := 21) rfl (by decide) (by decide) ?_
  intro v77 T77 L77 X77 Q77
  obtain ⟨rfl, Nq77, e77⟩ := Q77
  have N77 := Fr.app N76 Nq77
  show Go _ _ _ _ (T77.setTop (mkF m 21 #[.val (.ref t), .val (iv 59), .val (iv 0), .val (iv 5)] [(iv 5)]))
  refine sI X77 hx (hb hby d_jdk_43m22_21) (q := 22) rfl (Ls' := #[.val (.ref t), .val (iv 59), .val (iv 0), .val (iv 5)]) rfl ?_
  refine iL X77 hx (hb hby d_jdk_43m22_22) (q := 23) rfl rfl ?_
  refine iL X77 hx (hb hby d_jdk_43m22_23) (q := 24) rfl rfl ?_
  refine icY X77 hx (hb hby d_jdk_43m22_24) (q := 29) (by decide) (by decide) (by decide) ?_
  refine aL X77 hx (hb hby d_jdk_43m22_29) (q := 30) rfl rfl rfl ?_
  refine iL X77 hx (hb hby d_jdk_43m22_30) (q := 31) rfl rfl ?_
  refine iL X77 hx (hb hby d_jdk_43m22_31) (q := 32) rfl rfl ?_
  refine iL X77 hx (hb hby d_jdk_43m22_32) (q := 33) rfl rfl ?_
  refine g_st X77 hx hZ0 hown0 (wd87 hw) (wd88 hw) (wd78 hw) (wd89 hw) (by decide) e77 (Con.back (W := 0) (rm_ioc l Z a0 hw zC SC PC vF rF SF aI SI aR SR t kb c0 c1 c2 c3 c4 h0 O0 PB H0 J0 H1 J1 H2 J2 H3 J3 H4 J4) hZ0 (wd89 hw) (wd78 hw) (by decide) (by decide)) (by rw [hml]; rfl) (lenOf pd3 rfl) rfl (Nat.le_of_eq rfl) (hb hby d_jdk_43m22_33) (q := 36) rfl (by decide) (by decide) ?_
  intro v78 T78 L78 X78 Q78
  obtain ⟨rfl, Nq78, e78⟩ := Q78
  have N78 := Fr.app N77 Nq78
  show Go _ _ _ _ (T78.setTop (mkF m 36 #[.val (.ref t), .val (iv 59), .val (iv 0), .val (iv 5)] [(.int (ixf (fse c0 c1 c2 c3 c4)))]))
  refine endP X78 hlk (fun h => by rw [hret] at h; cases h) (lastI X78 hx hret (hb hby d_jdk_43m22_36)) ?_ (by decide) (by decide)
  rw [e78]
  exact ⟨rfl, N78, rfl⟩
theorem d_jdk_42m80_0 : decode jdk_42_method_80_code 0 = .ok (.aload_n 0, 1) := by decide +kernel
theorem d_jdk_42m80_1 : decode jdk_42_method_80_code 1 = .ok (.invokevirtual 492, 3) := by decide +kernel
theorem wd65 {a0 : Array Value} {Z : State} (hw : HW a0 Z) : ((Jvm.Cond.code ({ cls := "java/lang/String", name := "isLatin1", desc := "()Z" } : Jvm.MethodName) jdk_42_method_154_code (1 : Nat) (Option.some Jvm.ClassFile.FieldType.boolean)) : Jvm.Cond).before a0 Z = true := hw _ (List.mem_of_getElem? (i := 65) rfl)
theorem pd4 : parseMethodDescriptor "()Z" = some ⟨[], some .boolean⟩ := by decide +kernel
theorem wd64 {a0 : Array Value} {Z : State} (hw : HW a0 Z) : ((Jvm.Cond.selects "java/lang/String" ({ cls := "java/lang/String", name := "isLatin1", desc := "()Z" } : Jvm.MethodName) ({ cls := "java/lang/String", name := "isLatin1", desc := "()Z" } : Jvm.MethodName)) : Jvm.Cond).before a0 Z = true := hw _ (List.mem_of_getElem? (i := 64) rfl)
theorem wd61 {a0 : Array Value} {Z : State} (hw : HW a0 Z) : ((Jvm.Cond.methodLink "java/lang/String" (492 : Nat) ({ cls := "java/lang/String", name := "isLatin1", desc := "()Z" } : Jvm.MethodName)) : Jvm.Cond).before a0 Z = true := hw _ (List.mem_of_getElem? (i := 61) rfl)
theorem wd62 {a0 : Array Value} {Z : State} (hw : HW a0 Z) : ((Jvm.Cond.declares ({ cls := "java/lang/String", name := "isLatin1", desc := "()Z" } : Jvm.MethodName)) : Jvm.Cond).before a0 Z = true := hw _ (List.mem_of_getElem? (i := 62) rfl)
theorem wd63 {a0 : Array Value} {Z : State} (hw : HW a0 Z) : ((Jvm.Cond.instanceMethod ({ cls := "java/lang/String", name := "isLatin1", desc := "()Z" } : Jvm.MethodName)) : Jvm.Cond).before a0 Z = true := hw _ (List.mem_of_getElem? (i := 63) rfl)
theorem d_jdk_42m80_4 : decode jdk_42_method_80_code 4 = .ok (.ifCond .eq 19, 3) := by decide +kernel
theorem d_jdk_42m80_7 : decode jdk_42_method_80_code 7 = .ok (.aload_n 0, 1) := by decide +kernel
theorem d_jdk_42m80_8 : decode jdk_42_method_80_code 8 = .ok (.getfield 9, 3) := by decide +kernel
theorem d_jdk_42m80_11 : decode jdk_42_method_80_code 11 = .ok (.iload_n 1, 1) := by decide +kernel
theorem d_jdk_42m80_12 : decode jdk_42_method_80_code 12 = .ok (.iload_n 2, 1) := by decide +kernel
theorem d_jdk_42m80_13 : decode jdk_42_method_80_code 13 = .ok (.aload_n 0, 1) := by decide +kernel
theorem d_jdk_42m80_14 : decode jdk_42_method_80_code 14 = .ok (.invokevirtual 505, 3) := by decide +kernel
theorem wd70 {a0 : Array Value} {Z : State} (hw : HW a0 Z) : ((Jvm.Cond.code ({ cls := "java/lang/String", name := "length", desc := "()I" } : Jvm.MethodName) jdk_42_method_54_code (1 : Nat) (Option.some Jvm.ClassFile.FieldType.int)) : Jvm.Cond).before a0 Z = true := hw _ (List.mem_of_getElem? (i := 70) rfl)
theorem pd5 : parseMethodDescriptor "()I" = some ⟨[], some .int⟩ := by decide +kernel
theorem wd69 {a0 : Array Value} {Z : State} (hw : HW a0 Z) : ((Jvm.Cond.selects "java/lang/String" ({ cls := "java/lang/String", name := "length", desc := "()I" } : Jvm.MethodName) ({ cls := "java/lang/String", name := "length", desc := "()I" } : Jvm.MethodName)) : Jvm.Cond).before a0 Z = true := hw _ (List.mem_of_getElem? (i := 69) rfl)
theorem wd66 {a0 : Array Value} {Z : State} (hw : HW a0 Z) : ((Jvm.Cond.methodLink "java/lang/String" (505 : Nat) ({ cls := "java/lang/String", name := "length", desc := "()I" } : Jvm.MethodName)) : Jvm.Cond).before a0 Z = true := hw _ (List.mem_of_getElem? (i := 66) rfl)
theorem wd67 {a0 : Array Value} {Z : State} (hw : HW a0 Z) : ((Jvm.Cond.declares ({ cls := "java/lang/String", name := "length", desc := "()I" } : Jvm.MethodName)) : Jvm.Cond).before a0 Z = true := hw _ (List.mem_of_getElem? (i := 67) rfl)
theorem wd68 {a0 : Array Value} {Z : State} (hw : HW a0 Z) : ((Jvm.Cond.instanceMethod ({ cls := "java/lang/String", name := "length", desc := "()I" } : Jvm.MethodName)) : Jvm.Cond).before a0 Z = true := hw _ (List.mem_of_getElem? (i := 68) rfl)
theorem d_jdk_42m80_17 : decode jdk_42_method_80_code 17 = .ok (.invokestatic 637, 3) := by decide +kernel
theorem wd79 {a0 : Array Value} {Z : State} (hw : HW a0 Z) : ((Jvm.Cond.code ({ cls := "java/lang/StringLatin1", name := "indexOf", desc := "([BIII)I" } : Jvm.MethodName) jdk_43_method_22_code (4 : Nat) (Option.some Jvm.ClassFile.FieldType.int)) : Jvm.Cond).before a0 Z = true := hw _ (List.mem_of_getElem? (i := 79) rfl)
theorem wd76 {a0 : Array Value} {Z : State} (hw : HW a0 Z) : ((Jvm.Cond.methodLink "java/lang/String" (637 : Nat) ({ cls := "java/lang/StringLatin1", name := "indexOf", desc := "([BIII)I" } : Jvm.MethodName)) : Jvm.Cond).before a0 Z = true := hw _ (List.mem_of_getElem? (i := 76) rfl)
theorem wd77 {a0 : Array Value} {Z : State} (hw : HW a0 Z) : ((Jvm.Cond.static ({ cls := "java/lang/StringLatin1", name := "indexOf", desc := "([BIII)I" } : Jvm.MethodName)) : Jvm.Cond).before a0 Z = true := hw _ (List.mem_of_getElem? (i := 77) rfl)
theorem d_jdk_42m80_20 : decode jdk_42_method_80_code 20 = .ok (.goto 16, 3) := by decide +kernel
theorem d_jdk_42m80_36 : decode jdk_42_method_80_code 36 = .ok (.ireturn, 1) := by decide +kernel
def Q_io2 (Z : State) (zC : Int32) (vF : Value) (aI : Addr) (aR : Addr) (a1 : Addr) (t : Addr) (kb : ClassId) (c0 : Int32) (c1 : Int32) (c2 : Int32) (c3 : Int32) (c4 : Int32) (h0 : Heap) (v : Option Value) (h : Heap) (L : List Loc) : Prop := v = some (.int (ixf (fse c0 c1 c2 c3 c4))) ∧ Fr Z.heap.size L ∧ h = h0
theorem rm_io2 (l : Launch) (Z : State) (a0 : Array Value) (hw : HW a0 Z) (zC : Int32) (SC : tSC Z zC) (PC : ¬ zC = (0 : Int32)) (vF : Value) (rF : vF = .null ∨ ∃ a, vF = .ref a) (SF : tSF Z vF) (aI : Addr) (SI : tSI Z aI) (aR : Addr) (SR : tSR Z aR) (a1 : Addr) (t : Addr) (kb : ClassId) (c0 : Int32) (c1 : Int32) (c2 : Int32) (c3 : Int32) (c4 : Int32) (h0 : Heap) (O0 : Old Z Z.heap.size h0) (Pe : Exa Z h0 a1 sT0) (Pc : Fld Z h0 a1 sT0 "coder" "B" (iv 0)) (Pv : Fld Z h0 a1 sT0 "value" "[B" (.ref t)) (PB : Arv Z h0 t kb .byte (5 : Int32) [(.int (StrChars.lo8 c0)), (.int (StrChars.lo8 c1)), (.int (StrChars.lo8 c2)), (.int (StrChars.lo8 c3)), (.int (StrChars.lo8 c4))] (.int 0)) (H0 : (¬ (c0 < (0 : Int32)))) (J0 : (¬ ((255 : Int32) < c0))) (H1 : (¬ (c1 < (0 : Int32)))) (J1 : (¬ ((255 : Int32) < c1))) (H2 : (¬ (c2 < (0 : Int32)))) (J2 : (¬ ((255 : Int32) < c2))) (H3 : (¬ (c3 < (0 : Int32)))) (J3 : (¬ ((255 : Int32) < c3))) (H4 : (¬ (c4 < (0 : Int32)))) (J4 : (¬ ((255 : Int32) < c4))) :
    Con l Z (⟨sT0, "indexOf", "(II)I"⟩ : MethodName) jdk_42_method_80_code 3 (some .int) ({ frames := 2, cells := 0, slots := 0, locals := 32 } : Room) #[(.ref a1), (iv 59), (iv 0)] h0 (Q_io2 Z zC vF aI aR a1 t kb c0 c1 c2 c3 c4 h0) := by
  refine Con.intro (plainFor_of_name pn3) ?_
  intro p e s m below meth c T0 X0 hx hby hml hown0 hnm hret hlk hZ0 e0
  have N0 := Fr.nil Z.heap.size
  refine castGo (g' := mkF m 0 #[.val (.ref a1), .val (iv 59), .val (iv 0)] []) (by first | rfl | (simp [entryFrame, mkF, argsToLocals, Value.category]; done)) ?_
  show Go _ _ _ _ (T0.setTop (mkF m 0 #[.val (.ref a1), .val (iv 59), .val (iv 0)] []))
  refine aL X0 hx (hb hby d_jdk_42m80_0) (q := 1) rfl rfl rfl ?_
  refine g_vi X0 hx hZ0 hown0 (wd61 hw) (wd62 hw) (notFace_of_selects (args := #[]) (mvT hZ0 (wd64 hw))) (wd64 hw) (wd63 hw) (by decide) Pe e0 (Con.back (W := 0) (rm_isl0 l Z a0 hw zC SC PC vF rF SF aI SI aR SR a1 h0 O0 Pc) hZ0 (wd65 hw) (wd20 hw) (by decide) (by decide)) (by rw [hml]; rfl) (lenOf pd4 rfl) rfl (Nat.le_of_eq rfl) (hb hby d_jdk_42m80_1) (q := 4) rfl (by decide) (by decide) ?_
  intro v79 T79 L79 X79 Q79
  obtain ⟨rfl, Nq79, e79⟩ := Q79
  have N79 := Fr.app N0 Nq79
  show Go _ _ _ _ (T79.setTop (mkF m 4 #[.val (.ref a1), .val (iv 59), .val (iv 0)] [(iv 1)]))
  refine ifN X79 hx (hb hby d_jdk_42m80_4) (q := 7) rfl (by decide) ?_
  refine aL X79 hx (hb hby d_jdk_42m80_7) (q := 8) rfl rfl rfl ?_
  refine g_getF X79 hx hZ0 hown0 (host := "") (Or.inl (wd45 hw)) Via.refl Pv e79 (hb hby d_jdk_42m80_8) (q := 11) rfl ?_
  intro T80 X80 e80
  refine iL X80 hx (hb hby d_jdk_42m80_11) (q := 12) rfl rfl ?_
  refine iL X80 hx (hb hby d_jdk_42m80_12) (q := 13) rfl rfl ?_
  refine aL X80 hx (hb hby d_jdk_42m80_13) (q := 14) rfl rfl rfl ?_
  refine g_vi X80 hx hZ0 hown0 (wd66 hw) (wd67 hw) (notFace_of_selects (args := #[]) (mvT hZ0 (wd69 hw))) (wd69 hw) (wd68 hw) (by decide) Pe e80 (Con.back (W := 3) (rm_slen l Z a0 hw zC SC PC vF rF SF aI SI aR SR a1 t kb [(.int (StrChars.lo8 c0)), (.int (StrChars.lo8 c1)), (.int (StrChars.lo8 c2)), (.int (StrChars.lo8 c3)), (.int (StrChars.lo8 c4))] (5 : Int32) h0 O0 Pe Pc Pv PB) hZ0 (wd70 hw) (wd20 hw) (by decide) (by decide)) (by rw [hml]; rfl) (lenOf pd5 rfl) rfl (Nat.le_of_eq rfl) (hb hby d_jdk_42m80_14) (q := 17) rfl (by decide) (by decide) ?_
  intro v81 T81 L81 X81 Q81
  obtain ⟨rfl, Nq81, e81⟩ := Q81
  have N81 := Fr.app N79 Nq81
  show Go _ _ _ _ (T81.setTop (mkF m 17 #[.val (.ref a1), .val (iv 59), .val (iv 0)] [(iv 5), (iv 0), (iv 59), (.ref t)]))
  refine g_st X81 hx hZ0 hown0 (wd76 hw) (wd77 hw) (wd78 hw) (wd79 hw) (by decide) e81 (Con.back (W := 0) (rm_io4 l Z a0 hw zC SC PC vF rF SF aI SI aR SR t kb c0 c1 c2 c3 c4 h0 O0 PB H0 J0 H1 J1 H2 J2 H3 J3 H4 J4) hZ0 (wd79 hw) (wd78 hw) (by decide) (by decide)) (by rw [hml]; rfl) (lenOf pd3 rfl) rfl (Nat.le_of_eq rfl) (hb hby d_jdk_42m80_17) (q := 20) rfl (by decide) (by decide) ?_
  intro v82 T82 L82 X82 Q82
  obtain ⟨rfl, Nq82, e82⟩ := Q82
  have N82 := Fr.app N81 Nq82
  show Go _ _ _ _ (T82.setTop (mkF m 20 #[.val (.ref a1), .val (iv 59), .val (iv 0)] [(.int (ixf (fse c0 c1 c2 c3 c4)))]))
  refine g_goto X82 hx (hb hby d_jdk_42m80_20) (q := 36) (by decide) (by decide) ?_
  refine endP X82 hlk (fun h => by rw [hret] at h; cases h) (lastI X82 hx hret (hb hby d_jdk_42m80_36)) ?_ (by decide) (by decide)
  rw [e82]
  exact ⟨rfl, N82, rfl⟩
theorem d_jdk_42m79_0 : decode jdk_42_method_79_code 0 = .ok (.aload_n 0, 1) := by decide +kernel
theorem d_jdk_42m79_1 : decode jdk_42_method_79_code 1 = .ok (.iload_n 1, 1) := by decide +kernel
theorem d_jdk_42m79_2 : decode jdk_42_method_79_code 2 = .ok (.iconst 0, 1) := by decide +kernel
theorem d_jdk_42m79_3 : decode jdk_42_method_79_code 3 = .ok (.invokevirtual 633, 3) := by decide +kernel
theorem wd60 {a0 : Array Value} {Z : State} (hw : HW a0 Z) : ((Jvm.Cond.code ({ cls := "java/lang/String", name := "indexOf", desc := "(II)I" } : Jvm.MethodName) jdk_42_method_80_code (3 : Nat) (Option.some Jvm.ClassFile.FieldType.int)) : Jvm.Cond).before a0 Z = true := hw _ (List.mem_of_getElem? (i := 60) rfl)
theorem wd59 {a0 : Array Value} {Z : State} (hw : HW a0 Z) : ((Jvm.Cond.selects "java/lang/String" ({ cls := "java/lang/String", name := "indexOf", desc := "(II)I" } : Jvm.MethodName) ({ cls := "java/lang/String", name := "indexOf", desc := "(II)I" } : Jvm.MethodName)) : Jvm.Cond).before a0 Z = true := hw _ (List.mem_of_getElem? (i := 59) rfl)
theorem wd56 {a0 : Array Value} {Z : State} (hw : HW a0 Z) : ((Jvm.Cond.methodLink "java/lang/String" (633 : Nat) ({ cls := "java/lang/String", name := "indexOf", desc := "(II)I" } : Jvm.MethodName)) : Jvm.Cond).before a0 Z = true := hw _ (List.mem_of_getElem? (i := 56) rfl)
theorem wd57 {a0 : Array Value} {Z : State} (hw : HW a0 Z) : ((Jvm.Cond.declares ({ cls := "java/lang/String", name := "indexOf", desc := "(II)I" } : Jvm.MethodName)) : Jvm.Cond).before a0 Z = true := hw _ (List.mem_of_getElem? (i := 57) rfl)
theorem wd58 {a0 : Array Value} {Z : State} (hw : HW a0 Z) : ((Jvm.Cond.instanceMethod ({ cls := "java/lang/String", name := "indexOf", desc := "(II)I" } : Jvm.MethodName)) : Jvm.Cond).before a0 Z = true := hw _ (List.mem_of_getElem? (i := 58) rfl)
theorem d_jdk_42m79_6 : decode jdk_42_method_79_code 6 = .ok (.ireturn, 1) := by decide +kernel
def Q_io1 (Z : State) (zC : Int32) (vF : Value) (aI : Addr) (aR : Addr) (a1 : Addr) (t : Addr) (kb : ClassId) (c0 : Int32) (c1 : Int32) (c2 : Int32) (c3 : Int32) (c4 : Int32) (h0 : Heap) (v : Option Value) (h : Heap) (L : List Loc) : Prop := v = some (.int (ixf (fse c0 c1 c2 c3 c4))) ∧ Fr Z.heap.size L ∧ h = h0
theorem rm_io1 (l : Launch) (Z : State) (a0 : Array Value) (hw : HW a0 Z) (zC : Int32) (SC : tSC Z zC) (PC : ¬ zC = (0 : Int32)) (vF : Value) (rF : vF = .null ∨ ∃ a, vF = .ref a) (SF : tSF Z vF) (aI : Addr) (SI : tSI Z aI) (aR : Addr) (SR : tSR Z aR) (a1 : Addr) (t : Addr) (kb : ClassId) (c0 : Int32) (c1 : Int32) (c2 : Int32) (c3 : Int32) (c4 : Int32) (h0 : Heap) (O0 : Old Z Z.heap.size h0) (Pe : Exa Z h0 a1 sT0) (Pc : Fld Z h0 a1 sT0 "coder" "B" (iv 0)) (Pv : Fld Z h0 a1 sT0 "value" "[B" (.ref t)) (PB : Arv Z h0 t kb .byte (5 : Int32) [(.int (StrChars.lo8 c0)), (.int (StrChars.lo8 c1)), (.int (StrChars.lo8 c2)), (.int (StrChars.lo8 c3)), (.int (StrChars.lo8 c4))] (.int 0)) (H0 : (¬ (c0 < (0 : Int32)))) (J0 : (¬ ((255 : Int32) < c0))) (H1 : (¬ (c1 < (0 : Int32)))) (J1 : (¬ ((255 : Int32) < c1))) (H2 : (¬ (c2 < (0 : Int32)))) (J2 : (¬ ((255 : Int32) < c2))) (H3 : (¬ (c3 < (0 : Int32)))) (J3 : (¬ ((255 : Int32) < c3))) (H4 : (¬ (c4 < (0 : Int32)))) (J4 : (¬ ((255 : Int32) < c4))) :
    Con l Z (⟨sT0, "indexOf", "(I)I"⟩ : MethodName) jdk_42_method_79_code 2 (some .int) ({ frames := 3, cells := 0, slots := 0, locals := 46 } : Room) #[(.ref a1), (iv 59)] h0 (Q_io1 Z zC vF aI aR a1 t kb c0 c1 c2 c3 c4 h0) := by
  refine Con.intro (plainFor_of_name pn3) ?_
  intro p e s m below meth c T0 X0 hx hby hml hown0 hnm hret hlk hZ0 e0
  have N0 := Fr.nil Z.heap.size
  refine castGo (g' := mkF m 0 #[.val (.ref a1), .val (iv 59)] []) (by first | rfl | (simp [entryFrame, mkF, argsToLocals, Value.category]; done)) ?_
  show Go _ _ _ _ (T0.setTop (mkF m 0 #[.val (.ref a1), .val (iv 59)] []))
  refine aL X0 hx (hb hby d_jdk_42m79_0) (q := 1) rfl rfl rfl ?_
  refine iL X0 hx (hb hby d_jdk_42m79_1) (q := 2) rfl rfl ?_
  refine cI X0 hx (hb hby d_jdk_42m79_2) (q := 3) rfl (z := (0 : Int32)) rfl ?_
  refine g_vi X0 hx hZ0 hown0 (wd56 hw) (wd57 hw) (notFace_of_selects (args := #[]) (mvT hZ0 (wd59 hw))) (wd59 hw) (wd58 hw) (by decide) Pe e0 (Con.back (W := 0) (rm_io2 l Z a0 hw zC SC PC vF rF SF aI SI aR SR a1 t kb c0 c1 c2 c3 c4 h0 O0 Pe Pc Pv PB H0 J0 H1 J1 H2 J2 H3 J3 H4 J4) hZ0 (wd60 hw) (wd20 hw) (by decide) (by decide)) (by rw [hml]; rfl) (lenOf pd2 rfl) rfl (Nat.le_of_eq rfl) (hb hby d_jdk_42m79_3) (q := 6) rfl (by decide) (by decide) ?_
  intro v83 T83 L83 X83 Q83
  obtain ⟨rfl, Nq83, e83⟩ := Q83
  have N83 := Fr.app N0 Nq83
  show Go _ _ _ _ (T83.setTop (mkF m 6 #[.val (.ref a1), .val (iv 59)] [(.int (ixf (fse c0 c1 c2 c3 c4)))]))
  refine endP X83 hlk (fun h => by rw [hret] at h; cases h) (lastI X83 hx hret (hb hby d_jdk_42m79_6)) ?_ (by decide) (by decide)
  rw [e83]
  exact ⟨rfl, N83, rfl⟩
theorem on_sub {a b : Nat} (h : b ≤ a) (ha : a < 2147483648) : Int32.ofNat a - Int32.ofNat b = Int32.ofNat (a - b) := by
  apply Int32.toInt_inj.mp
  have h2 := c_isub (Int32.ofNat a) (Int32.ofNat b)
  have r2 := rng32 (Int32.ofNat a - Int32.ofNat b)
  rw [on_int ha, on_int (i := b) (by omega)] at h2
  rw [on_int (i := a - b) (by omega)]
  omega
theorem add_zero32 (x : Int32) : x + (0 : Int32) = x := by simp
theorem on_add (a b : Nat) : Int32.ofNat a + Int32.ofNat b = Int32.ofNat (a + b) := (Int32.ofNat_add ..).symm
theorem on_le {a b : Nat} (h : a ≤ b) (hb : b < 2147483648) : ¬ Int32.ofNat b < Int32.ofNat a := by
  rw [Int32.lt_iff_toInt_lt, on_int hb, on_int (by omega)]; omega
theorem on_shl {a : Nat} (h : a < 1073741824) : Int32.ofNat a <<< ((1 : Int32) &&& 31) = Int32.ofNat (2 * a) := by
  apply Int32.toInt_inj.mp
  have h2 := c_ishl (Int32.ofNat a) 1 1 (by decide)
  have r2 := rng32 (Int32.ofNat a <<< ((1 : Int32) &&& 31))
  rw [on_int (i := a) (by omega)] at h2
  rw [on_int (i := 2 * a) (by omega)]
  omega
theorem on_shr {a : Nat} (h : a < 2147483648) : Int32.ofNat a >>> ((1 : Int32) &&& 31) = Int32.ofNat (a / 2) := by
  apply Int32.toInt_inj.mp
  have h2 := c_ishr (Int32.ofNat a) 1 1 (by decide)
  rw [on_int h] at h2
  rw [on_int (i := a / 2) (by omega)]
  omega
theorem on_or {a b : Int32} (ha : ¬ a < 0) (hb : ¬ b < 0) : ¬ (a ||| b) < 0 := by
  have e0 : (0 : Int32).toInt = 0 := by decide
  have m : ∀ x : Int32, x < 0 ↔ x.toBitVec.msb = true := fun x => by
    rw [Int32.lt_iff_toInt_lt, e0, BitVec.msb_eq_toInt, decide_eq_true_iff]; rfl
  rw [m] at *
  rw [Int32.toBitVec_or, BitVec.msb_or]
  simp_all
theorem map_getD {cs : List Int32} {n i : Nat} {f : Int32 → Value} {d : Value} (Hn : cs.length = n) (h : i < n) : (cs.map f).getD i d = f (cs.getD i 0) := by
  have h' : i < cs.length := by omega
  simp [List.getD_eq_getElem?_getD, h']
theorem rng_of {cs : List Int32} {n i : Nat} {y : Int32} {P : Int32 → Prop} (Hr : ∀ x ∈ cs, P x) (Hn : cs.length = n) (h : i < n) (hy : y = cs.getD i 0) : P y := by
  have h' : i < cs.length := by omega
  subst hy
  apply Hr
  rw [List.getD_eq_getElem?_getD, List.getElem?_eq_getElem h']
  exact List.getElem_mem h'
theorem all_step {P : Nat → Prop} {i : Nat} (q : ∀ j, j < i → P j) (h : P i) : ∀ j, j < i + 1 → P j := fun j hj => by
  rcases Nat.lt_or_eq_of_le (Nat.le_of_lt_succ hj) with h1 | h1
  · exact q j h1
  · rw [h1]; exact h
def lo8V (x : Int32) : Value := .int (StrChars.lo8 x)
theorem sub_all {V : List Value} {n : Nat} {d : Value} (h : V.length = n) : sub V 0 n d = V := by
  apply List.ext_getElem (by rw [sub_len, h])
  intro j h1 h2
  simp [sub, List.getD_eq_getElem?_getD, h2]
theorem insA {A B : List Value} {c n r : Nat} {v : Value} (hA : A.length = c) (hB : B.length = n) (h : n ≤ r) : ins (A ++ List.replicate r v) B c n = (A ++ B) ++ List.replicate (r - n) v := by
  subst hA
  unfold ins
  rw [List.take_left' rfl, ← List.drop_drop, List.drop_left' rfl, List.drop_replicate]
theorem growA {V : List Value} {cap to : Nat} {v d : Value} (hV : V.length = cap) (h : cap ≤ to) : ins (List.replicate to v) (sub V 0 cap d) 0 cap = V ++ List.replicate (to - cap) v := by
  rw [sub_all hV]
  exact insA (A := []) rfl hV h
theorem rep_add {a b : Nat} {v : Value} {A : List Value} : (A ++ List.replicate a v) ++ List.replicate b v = A ++ List.replicate (a + b) v := by
  rw [List.append_assoc, List.replicate_append_replicate]
theorem d_jdk_65m131_0 : decode jdk_65_method_131_code 0 = .ok (.iload_n 1, 1) := by decide +kernel
theorem d_jdk_65m131_1 : decode jdk_65_method_131_code 1 = .ok (.iload_n 0, 1) := by decide +kernel
theorem d_jdk_65m131_2 : decode jdk_65_method_131_code 2 = .ok (.if_icmp .ge 35, 3) := by decide +kernel
theorem d_jdk_65m131_37 : decode jdk_65_method_131_code 37 = .ok (.return_, 1) := by decide +kernel
def Q_ckl (Z : State) (zC : Int32) (vF : Value) (aI : Addr) (aR : Addr) (pi : Nat) (pe : Nat) (h0 : Heap) (v : Option Value) (h : Heap) (L : List Loc) : Prop := v = none ∧ Fr Z.heap.size L ∧ h = h0
theorem pn6 : plainName "java/util/Arrays" = true := by first | (simp [plainName, overriddenIn]; done) | decide +kernel
theorem rm_ckl (l : Launch) (Z : State) (a0 : Array Value) (hw : HW a0 Z) (zC : Int32) (SC : tSC Z zC) (PC : ¬ zC = (0 : Int32)) (vF : Value) (rF : vF = .null ∨ ∃ a, vF = .ref a) (SF : tSF Z vF) (aI : Addr) (SI : tSI Z aI) (aR : Addr) (SR : tSR Z aR) (pi : Nat) (pe : Nat) (h0 : Heap) (O0 : Old Z Z.heap.size h0) (H1 : (pi ≤ pe)) (H2 : (pe ≤ 5)) :
    Con l Z (⟨"java/util/Arrays", "checkLength", "(II)V"⟩ : MethodName) jdk_65_method_131_code 2 none ({ frames := 0, cells := 0, slots := 0, locals := 0 } : Room) #[(.int (Int32.ofNat pi)), (.int (Int32.ofNat pe))] h0 (Q_ckl Z zC vF aI aR pi pe h0) := by
  refine Con.intro (plainFor_of_name pn6) ?_
  intro p e s m below meth c T0 X0 hx hby hml hown0 hnm hret hlk hZ0 e0
  have N0 := Fr.nil Z.heap.size
  refine castGo (g' := mkF m 0 #[.val (.int (Int32.ofNat pi)), .val (.int (Int32.ofNat pe))] []) (by first | rfl | (simp [entryFrame, mkF, argsToLocals, Value.category]; done)) ?_
  show Go _ _ _ _ (T0.setTop (mkF m 0 #[.val (.int (Int32.ofNat pi)), .val (.int (Int32.ofNat pe))] []))
  refine iL X0 hx (hb hby d_jdk_65m131_0) (q := 1) rfl rfl ?_
  refine iL X0 hx (hb hby d_jdk_65m131_1) (q := 2) rfl rfl ?_
  refine icY X0 hx (hb hby d_jdk_65m131_2) (q := 37) (by decide) (by decide) (flt (on_le (show pi ≤ pe from by omega) (show pe < 2147483648 from by omega))).2.1 ?_
  refine endP X0 hlk (fun _ => rfl) (lastV X0 hx hret (hb hby d_jdk_65m131_37)) ?_ (by decide) (by decide)
  rw [e0]
  exact ⟨rfl, N0, rfl⟩
theorem eq_two {a b : Int32} (h1 : ¬ a < b) (h2 : ¬ b < a) : a = b := by
  apply Int32.toInt_inj.mp
  simp only [Int32.lt_iff_toInt_lt] at h1 h2
  omega
theorem ins_all {X : List Value} {v : Value} {n : Nat} (h : X.length = n) : ins (List.replicate n v) X 0 n = X := by
  simp [ins, h]
theorem d_jdk_29m69_9 : decode jdk_29_method_69_code 9 = .ok (.iload_n 1, 1) := by decide +kernel
def Q_mnr (Z : State) (zC : Int32) (vF : Value) (aI : Addr) (aR : Addr) (x0 : Int32) (x1 : Int32) (h0 : Heap) (v : Option Value) (h : Heap) (L : List Loc) : Prop := v = some (.int x1) ∧ Fr Z.heap.size L ∧ h = h0
theorem rm_mnr (l : Launch) (Z : State) (a0 : Array Value) (hw : HW a0 Z) (zC : Int32) (SC : tSC Z zC) (PC : ¬ zC = (0 : Int32)) (vF : Value) (rF : vF = .null ∨ ∃ a, vF = .ref a) (SF : tSF Z vF) (aI : Addr) (SI : tSI Z aI) (aR : Addr) (SR : tSR Z aR) (x0 : Int32) (x1 : Int32) (h0 : Heap) (O0 : Old Z Z.heap.size h0) (PM : (¬ (x0 < x1))) :
    Con l Z (⟨"java/lang/Math", "min", "(II)I"⟩ : MethodName) jdk_29_method_69_code 2 (some .int) ({ frames := 0, cells := 0, slots := 0, locals := 0 } : Room) #[(.int x0), (.int x1)] h0 (Q_mnr Z zC vF aI aR x0 x1 h0) := by
  refine Con.intro pf5 ?_
  intro p e s m below meth c T0 X0 hx hby hml hown0 hnm hret hlk hZ0 e0
  have N0 := Fr.nil Z.heap.size
  refine castGo (g' := mkF m 0 #[.val (.int x0), .val (.int x1)] []) (by first | rfl | (simp [entryFrame, mkF, argsToLocals, Value.category]; done)) ?_
  show Go _ _ _ _ (T0.setTop (mkF m 0 #[.val (.int x0), .val (.int x1)] []))
  refine iL X0 hx (hb hby d_jdk_29m69_0) (q := 1) rfl rfl ?_
  refine iL X0 hx (hb hby d_jdk_29m69_1) (q := 2) rfl rfl ?_
  by_cases hc84 : x1 < x0
  · refine icY X0 hx (hb hby d_jdk_29m69_2) (q := 9) (by decide) (by decide) (tlt hc84).2.2.1 ?_
    refine iL X0 hx (hb hby d_jdk_29m69_9) (q := 10) rfl rfl ?_
    refine endP X0 hlk (fun h => by rw [hret] at h; cases h) (lastI X0 hx hret (hb hby d_jdk_29m69_10)) ?_ (by decide) (by decide)
    rw [e0]
    exact ⟨rfl, N0, rfl⟩
  · refine icN X0 hx (hb hby d_jdk_29m69_2) (q := 5) rfl (flt hc84).2.2.1 ?_
    refine iL X0 hx (hb hby d_jdk_29m69_5) (q := 6) rfl rfl ?_
    refine g_goto X0 hx (hb hby d_jdk_29m69_6) (q := 10) (by decide) (by decide) ?_
    refine castGo (g' := mkF m 10 #[.val (.int x0), .val (.int x1)] [(.int x1)]) (by rw [(eq_two (a := x1) (b := x0) hc84 PM)]) ?_
    refine endP X0 hlk (fun h => by rw [hret] at h; cases h) (lastI X0 hx hret (hb hby d_jdk_29m69_10)) ?_ (by decide) (by decide)
    rw [e0]
    exact ⟨rfl, N0, rfl⟩
theorem d_jdk_65m133_0 : decode jdk_65_method_133_code 0 = .ok (.iload_n 1, 1) := by decide +kernel
theorem d_jdk_65m133_1 : decode jdk_65_method_133_code 1 = .ok (.iload_n 2, 1) := by decide +kernel
theorem d_jdk_65m133_2 : decode jdk_65_method_133_code 2 = .ok (.invokestatic 343, 3) := by decide +kernel
theorem wd141 {a0 : Array Value} {Z : State} (hw : HW a0 Z) : ((Jvm.Cond.code ({ cls := "java/util/Arrays", name := "checkLength", desc := "(II)V" } : Jvm.MethodName) jdk_65_method_131_code (2 : Nat) (Option.none : Option Jvm.ClassFile.FieldType)) : Jvm.Cond).before a0 Z = true := hw _ (List.mem_of_getElem? (i := 141) rfl)
theorem wd134 {a0 : Array Value} {Z : State} (hw : HW a0 Z) : ((Jvm.Cond.initialized "java/util/Arrays") : Jvm.Cond).before a0 Z = true := hw _ (List.mem_of_getElem? (i := 134) rfl)
theorem pd6 : parseMethodDescriptor "(II)V" = some ⟨[.int, .int], none⟩ := by decide +kernel
theorem wd139 {a0 : Array Value} {Z : State} (hw : HW a0 Z) : ((Jvm.Cond.methodLink "java/util/Arrays" (343 : Nat) ({ cls := "java/util/Arrays", name := "checkLength", desc := "(II)V" } : Jvm.MethodName)) : Jvm.Cond).before a0 Z = true := hw _ (List.mem_of_getElem? (i := 139) rfl)
theorem wd140 {a0 : Array Value} {Z : State} (hw : HW a0 Z) : ((Jvm.Cond.static ({ cls := "java/util/Arrays", name := "checkLength", desc := "(II)V" } : Jvm.MethodName)) : Jvm.Cond).before a0 Z = true := hw _ (List.mem_of_getElem? (i := 140) rfl)
theorem d_jdk_65m133_5 : decode jdk_65_method_133_code 5 = .ok (.iload_n 2, 1) := by decide +kernel
theorem d_jdk_65m133_6 : decode jdk_65_method_133_code 6 = .ok (.iload_n 1, 1) := by decide +kernel
theorem d_jdk_65m133_7 : decode jdk_65_method_133_code 7 = .ok (.isub, 1) := by decide +kernel
theorem d_jdk_65m133_8 : decode jdk_65_method_133_code 8 = .ok (.istore_n 3, 1) := by decide +kernel
theorem d_jdk_65m133_9 : decode jdk_65_method_133_code 9 = .ok (.iload_n 3, 1) := by decide +kernel
theorem d_jdk_65m133_10 : decode jdk_65_method_133_code 10 = .ok (.newarray .byte, 2) := by decide +kernel
theorem wd36 {a0 : Array Value} {Z : State} (hw : HW a0 Z) : ((Jvm.Cond.arrayClass Jvm.ClassFile.FieldType.byte) : Jvm.Cond).before a0 Z = true := hw _ (List.mem_of_getElem? (i := 36) rfl)
theorem d_jdk_65m133_12 : decode jdk_65_method_133_code 12 = .ok (.astore 4, 2) := by decide +kernel
theorem d_jdk_65m133_14 : decode jdk_65_method_133_code 14 = .ok (.aload_n 0, 1) := by decide +kernel
theorem d_jdk_65m133_15 : decode jdk_65_method_133_code 15 = .ok (.iload_n 1, 1) := by decide +kernel
theorem d_jdk_65m133_16 : decode jdk_65_method_133_code 16 = .ok (.aload 4, 2) := by decide +kernel
theorem d_jdk_65m133_18 : decode jdk_65_method_133_code 18 = .ok (.iconst 0, 1) := by decide +kernel
theorem d_jdk_65m133_19 : decode jdk_65_method_133_code 19 = .ok (.aload_n 0, 1) := by decide +kernel
theorem d_jdk_65m133_20 : decode jdk_65_method_133_code 20 = .ok (.arraylength, 1) := by decide +kernel
theorem d_jdk_65m133_21 : decode jdk_65_method_133_code 21 = .ok (.iload_n 1, 1) := by decide +kernel
theorem d_jdk_65m133_22 : decode jdk_65_method_133_code 22 = .ok (.isub, 1) := by decide +kernel
theorem d_jdk_65m133_23 : decode jdk_65_method_133_code 23 = .ok (.iload_n 3, 1) := by decide +kernel
theorem d_jdk_65m133_24 : decode jdk_65_method_133_code 24 = .ok (.invokestatic 304, 3) := by decide +kernel
theorem wd142 {a0 : Array Value} {Z : State} (hw : HW a0 Z) : ((Jvm.Cond.methodLink "java/util/Arrays" (304 : Nat) ({ cls := "java/lang/Math", name := "min", desc := "(II)I" } : Jvm.MethodName)) : Jvm.Cond).before a0 Z = true := hw _ (List.mem_of_getElem? (i := 142) rfl)
theorem d_jdk_65m133_27 : decode jdk_65_method_133_code 27 = .ok (.invokestatic 150, 3) := by decide +kernel
theorem wd143 {a0 : Array Value} {Z : State} (hw : HW a0 Z) : ((Jvm.Cond.methodLink "java/util/Arrays" (150 : Nat) ({ cls := "java/lang/System", name := "arraycopy", desc := "(Ljava/lang/Object;ILjava/lang/Object;II)V" } : Jvm.MethodName)) : Jvm.Cond).before a0 Z = true := hw _ (List.mem_of_getElem? (i := 143) rfl)
theorem wd146 {a0 : Array Value} {Z : State} (hw : HW a0 Z) : ((Jvm.Cond.native ({ cls := "java/lang/System", name := "arraycopy", desc := "(Ljava/lang/Object;ILjava/lang/Object;II)V" } : Jvm.MethodName)) : Jvm.Cond).before a0 Z = true := hw _ (List.mem_of_getElem? (i := 146) rfl)
theorem wd144 {a0 : Array Value} {Z : State} (hw : HW a0 Z) : ((Jvm.Cond.static ({ cls := "java/lang/System", name := "arraycopy", desc := "(Ljava/lang/Object;ILjava/lang/Object;II)V" } : Jvm.MethodName)) : Jvm.Cond).before a0 Z = true := hw _ (List.mem_of_getElem? (i := 144) rfl)
theorem wd145 {a0 : Array Value} {Z : State} (hw : HW a0 Z) : ((Jvm.Cond.initialized "java/lang/System") : Jvm.Cond).before a0 Z = true := hw _ (List.mem_of_getElem? (i := 145) rfl)
theorem d_jdk_65m133_30 : decode jdk_65_method_133_code 30 = .ok (.aload 4, 2) := by decide +kernel
theorem d_jdk_65m133_32 : decode jdk_65_method_133_code 32 = .ok (.areturn, 1) := by decide +kernel
def Q_eByte (Z : State) (zC : Int32) (vF : Value) (aI : Addr) (aR : Addr) (t : Addr) (kb : ClassId) (us : List Value) (pz : Nat) (pi : Nat) (pe : Nat) (h0 : Heap) (v : Option Value) (h : Heap) (L : List Loc) : Prop := ∃ (ct : Addr), ∃ (kc : ClassId), v = some (.ref ct) ∧ Fr Z.heap.size L ∧ Keep h0 h [] ∧ h0.size ≤ ct ∧ Arv Z h ct kc .byte (Int32.ofNat (pe - pi)) (ins (List.replicate (pe - pi) (.int 0)) (sub us pi (pe - pi) (.int 0)) 0 (pe - pi)) (.int 0) ∧ Exa Z h ct "[B"
theorem rm_eByte (l : Launch) (Z : State) (a0 : Array Value) (hw : HW a0 Z) (zC : Int32) (SC : tSC Z zC) (PC : ¬ zC = (0 : Int32)) (vF : Value) (rF : vF = .null ∨ ∃ a, vF = .ref a) (SF : tSF Z vF) (aI : Addr) (SI : tSI Z aI) (aR : Addr) (SR : tSR Z aR) (t : Addr) (kb : ClassId) (us : List Value) (pz : Nat) (pi : Nat) (pe : Nat) (h0 : Heap) (O0 : Old Z Z.heap.size h0) (Pa : Arv Z h0 t kb .byte (Int32.ofNat pz) us (.int 0)) (Pl : (us.length = pz)) (Hz : (pz ≤ 5)) (H1 : (pi < pe)) (H2 : (pe ≤ pz)) (H3 : (¬ (pi = 0 ∧ pe = pz))) :
    Con l Z (⟨"java/util/Arrays", "copyOfRangeByte", "([BII)[B"⟩ : MethodName) jdk_65_method_133_code 5 (some (.array .byte)) ({ frames := 1, cells := 1, slots := 5, locals := 31 } : Room) #[(.ref t), (.int (Int32.ofNat pi)), (.int (Int32.ofNat pe))] h0 (Q_eByte Z zC vF aI aR t kb us pz pi pe h0) := by
  refine Con.intro (plainFor_of_name pn6) ?_
  intro p e s m below meth c T0 X0 hx hby hml hown0 hnm hret hlk hZ0 e0
  have N0 := Fr.nil Z.heap.size
  refine castGo (g' := mkF m 0 #[.val (.ref t), .val (.int (Int32.ofNat pi)), .val (.int (Int32.ofNat pe)), .unset, .unset] []) (by first | rfl | (simp [entryFrame, mkF, argsToLocals, Value.category]; done)) ?_
  show Go _ _ _ _ (T0.setTop (mkF m 0 #[.val (.ref t), .val (.int (Int32.ofNat pi)), .val (.int (Int32.ofNat pe)), .unset, .unset] []))
  refine iL X0 hx (hb hby d_jdk_65m133_0) (q := 1) rfl rfl ?_
  refine iL X0 hx (hb hby d_jdk_65m133_1) (q := 2) rfl rfl ?_
  refine g_st X0 hx hZ0 hown0 (wd139 hw) (wd140 hw) (wd134 hw) (wd141 hw) (by decide) e0 (Con.back (W := 0) (rm_ckl l Z a0 hw zC SC PC vF rF SF aI SI aR SR pi pe h0 O0 (show pi ≤ pe from by omega) (show pe ≤ 5 from by omega)) hZ0 (wd141 hw) (wd134 hw) (by decide) (by decide)) (by rw [hml]; rfl) (lenOf pd6 rfl) rfl (Nat.le_of_eq rfl) (hb hby d_jdk_65m133_2) (q := 5) rfl (by decide) (by decide) ?_
  intro v85 T85 L85 X85 Q85
  obtain ⟨rfl, Nq85, e85⟩ := Q85
  have N85 := Fr.app N0 Nq85
  show Go _ _ _ _ (T85.setTop (mkF m 5 #[.val (.ref t), .val (.int (Int32.ofNat pi)), .val (.int (Int32.ofNat pe)), .unset, .unset] []))
  refine iL X85 hx (hb hby d_jdk_65m133_5) (q := 6) rfl rfl ?_
  refine iL X85 hx (hb hby d_jdk_65m133_6) (q := 7) rfl rfl ?_
  refine g_isub X85 hx (hb hby d_jdk_65m133_7) (q := 8) rfl (z := (Int32.ofNat (pe - pi))) (on_sub (show pi ≤ pe from by omega) (show pe < 2147483648 from by omega)) ?_
  refine sI X85 hx (hb hby d_jdk_65m133_8) (q := 9) rfl (Ls' := #[.val (.ref t), .val (.int (Int32.ofNat pi)), .val (.int (Int32.ofNat pe)), .val (.int (Int32.ofNat (pe - pi))), .unset]) rfl ?_
  refine iL X85 hx (hb hby d_jdk_65m133_9) (q := 10) rfl rfl ?_
  refine g_newE X85 hx hZ0 (aty := .byte) (wd36 hw) (on_nn (show (pe - pi) < 2147483648 from by omega)) (n := (pe - pi)) (on_clamp (show (pe - pi) < 2147483648 from by omega)) (by omega) (by decide) (Nat.le_trans (show 0 + (pe - pi) ≤ 5 from by omega) (by decide)) (ad := "[B") (by decide) e85 (hb hby d_jdk_65m133_10) (q := 12) rfl ?_
  intro T86 h86 k86 b86 g86 X86q e86 E86 V86 G86
  have X86 := X86q.more (Nat.le_refl _) (show 0 + (pe - pi) ≤ 5 from by omega)
  show Go _ _ _ _ (T86.setTop (mkF m 12 #[.val (.ref t), .val (.int (Int32.ofNat pi)), .val (.int (Int32.ofNat pe)), .val (.int (Int32.ofNat (pe - pi))), .unset] [(.ref b86)]))
  refine sAw X86 hx (hb hby d_jdk_65m133_12) (q := 14) rfl rfl (Ls' := #[.val (.ref t), .val (.int (Int32.ofNat pi)), .val (.int (Int32.ofNat pe)), .val (.int (Int32.ofNat (pe - pi))), .val (.ref b86)]) rfl ?_
  refine aL X86 hx (hb hby d_jdk_65m133_14) (q := 15) rfl rfl rfl ?_
  refine iL X86 hx (hb hby d_jdk_65m133_15) (q := 16) rfl rfl ?_
  refine aLw X86 hx (hb hby d_jdk_65m133_16) (q := 18) rfl rfl rfl ?_
  refine cI X86 hx (hb hby d_jdk_65m133_18) (q := 19) rfl (z := (0 : Int32)) rfl ?_
  refine aL X86 hx (hb hby d_jdk_65m133_19) (q := 20) rfl rfl rfl ?_
  have f87 := Pa.ext E86
  refine g_len X86 hx hZ0 f87 e86 (hb hby d_jdk_65m133_20) (q := 21) rfl ?_
  refine iL X86 hx (hb hby d_jdk_65m133_21) (q := 22) rfl rfl ?_
  refine g_isub X86 hx (hb hby d_jdk_65m133_22) (q := 23) rfl (z := (Int32.ofNat (pz - pi))) (on_sub (show pi ≤ pz from by omega) (show pz < 2147483648 from by omega)) ?_
  refine iL X86 hx (hb hby d_jdk_65m133_23) (q := 24) rfl rfl ?_
  have f89 := O0.ext E86
  refine g_st X86 hx hZ0 hown0 (wd142 hw) (wd85 hw) (wd16 hw) (wd86 hw) (by decide) e86 (Con.back (W := 4) (rm_mnr l Z a0 hw zC SC PC vF rF SF aI SI aR SR (Int32.ofNat (pz - pi)) (Int32.ofNat (pe - pi)) h86 f89 (on_le (show (pe - pi) ≤ (pz - pi) from by omega) (show (pz - pi) < 2147483648 from by omega))) hZ0 (wd86 hw) (wd16 hw) (by decide) (by decide)) (by rw [hml]; rfl) (lenOf pd2 rfl) rfl (Nat.le_of_eq rfl) (hb hby d_jdk_65m133_24) (q := 27) rfl (by decide) (by decide) ?_
  intro v88 T88 L88 X88 Q88
  obtain ⟨rfl, Nq88, e88⟩ := Q88
  have N88 := Fr.app N85 Nq88
  show Go _ _ _ _ (T88.setTop (mkF m 27 #[.val (.ref t), .val (.int (Int32.ofNat pi)), .val (.int (Int32.ofNat pe)), .val (.int (Int32.ofNat (pe - pi))), .val (.ref b86)] [(.int (Int32.ofNat (pe - pi))), (iv 0), (.ref b86), (.int (Int32.ofNat pi)), (.ref t)]))
  have gz91 : Z.heap.size ≤ b86 := Nat.le_trans O0.2.1 (Nat.le_of_eq g86.symm)
  have ll90 : ((List.replicate (pe - pi) (.int 0)) : List Value).length = (pe - pi) := List.length_replicate
  refine g_cp X88 hx hZ0 hown0 (wd143 hw) (wd146 hw) (wd144 hw) (wd145 hw) (us := (sub us pi (pe - pi) (.int 0))) f87 V86 (Or.inl ⟨rfl, rfl⟩) (on_nn (show pi < 2147483648 from by omega)) (by decide) (on_nn (show (pe - pi) < 2147483648 from by omega)) (cp_le (on_clamp (show pi < 2147483648 from by omega)) (on_clamp (show (pe - pi) < 2147483648 from by omega)) (on_clamp (show pz < 2147483648 from by omega)) (show pi + (pe - pi) ≤ pz from by omega)) (cp_le (by decide : Int32.toNatClampNeg (0 : Int32) = 0) (on_clamp (show (pe - pi) < 2147483648 from by omega)) (on_clamp (show (pe - pi) < 2147483648 from by omega)) (show 0 + (pe - pi) ≤ (pe - pi) from by omega)) (cp_us (on_clamp (show pi < 2147483648 from by omega)) (on_clamp (show (pe - pi) < 2147483648 from by omega))) (cp_len (by decide : Int32.toNatClampNeg (0 : Int32) = 0) (on_clamp (show (pe - pi) < 2147483648 from by omega)) ll90 (show 0 + (pe - pi) ≤ (pe - pi) from by omega)) N88 gz91 (by rw [hml]; rfl) (by decide) (W := 0) (Nat.le_of_eq rfl) (by decide) e88 (hb hby d_jdk_65m133_27) (q := 30) rfl ?_
  intro T90 h90 L90 X90 e90 N90 K90q V90
  have Va90 : Arv Z h90 b86 k86 .byte (Int32.ofNat (pe - pi)) (ins (List.replicate (pe - pi) (.int 0)) (sub us pi (pe - pi) (.int 0)) 0 (pe - pi)) (.int 0) := cp_ins (by decide : Int32.toNatClampNeg (0 : Int32) = 0) (on_clamp (show (pe - pi) < 2147483648 from by omega)) V90
  have Ln90 : (ins (List.replicate (pe - pi) (.int 0)) (sub us pi (pe - pi) (.int 0)) 0 (pe - pi)).length = (pe - pi) := (ins_len sub_len (by rw [ll90]; omega)).trans ll90
  refine aLw X90 hx (hb hby d_jdk_65m133_30) (q := 32) rfl rfl rfl ?_
  have K92 : Keep h0 h86 [] := (Keep.refl h0 []).ext E86
  have gh93 : h0.size ≤ b86 := Nat.le_trans (Nat.le_refl _) (Nat.le_of_eq g86.symm)
  have K94 : Keep h0 h90 [] := K92.trans K90q (allS (Or.inr gh93) all0)
  have f95 := G86.keep K90q
  refine endP X90 hlk (fun h => by rw [hret] at h; cases h) (lastA X90 hx hret rfl rfl rfl (hb hby d_jdk_65m133_32)) ?_ (by decide) (by decide)
  rw [e90]
  exact ⟨b86, k86, rfl, N90, K94, gh93, Va90, f95⟩
theorem d_jdk_65m132_0 : decode jdk_65_method_132_code 0 = .ok (.iload_n 1, 1) := by decide +kernel
theorem d_jdk_65m132_1 : decode jdk_65_method_132_code 1 = .ok (.ifCond .ne 9, 3) := by decide +kernel
theorem d_jdk_65m132_4 : decode jdk_65_method_132_code 4 = .ok (.iload_n 2, 1) := by decide +kernel
theorem d_jdk_65m132_5 : decode jdk_65_method_132_code 5 = .ok (.aload_n 0, 1) := by decide +kernel
theorem d_jdk_65m132_6 : decode jdk_65_method_132_code 6 = .ok (.arraylength, 1) := by decide +kernel
theorem d_jdk_65m132_7 : decode jdk_65_method_132_code 7 = .ok (.if_icmp .eq 10, 3) := by decide +kernel
theorem d_jdk_65m132_10 : decode jdk_65_method_132_code 10 = .ok (.aload_n 0, 1) := by decide +kernel
theorem d_jdk_65m132_11 : decode jdk_65_method_132_code 11 = .ok (.iload_n 1, 1) := by decide +kernel
theorem d_jdk_65m132_12 : decode jdk_65_method_132_code 12 = .ok (.iload_n 2, 1) := by decide +kernel
theorem d_jdk_65m132_13 : decode jdk_65_method_132_code 13 = .ok (.invokestatic 339, 3) := by decide +kernel
theorem wd138 {a0 : Array Value} {Z : State} (hw : HW a0 Z) : ((Jvm.Cond.code ({ cls := "java/util/Arrays", name := "copyOfRangeByte", desc := "([BII)[B" } : Jvm.MethodName) jdk_65_method_133_code (5 : Nat) (Option.some (Jvm.ClassFile.FieldType.array Jvm.ClassFile.FieldType.byte))) : Jvm.Cond).before a0 Z = true := hw _ (List.mem_of_getElem? (i := 138) rfl)
theorem pd7 : parseMethodDescriptor "([BII)[B" = some ⟨[(.array .byte), .int, .int], some (.array .byte)⟩ := by decide +kernel
theorem wd136 {a0 : Array Value} {Z : State} (hw : HW a0 Z) : ((Jvm.Cond.methodLink "java/util/Arrays" (339 : Nat) ({ cls := "java/util/Arrays", name := "copyOfRangeByte", desc := "([BII)[B" } : Jvm.MethodName)) : Jvm.Cond).before a0 Z = true := hw _ (List.mem_of_getElem? (i := 136) rfl)
theorem wd137 {a0 : Array Value} {Z : State} (hw : HW a0 Z) : ((Jvm.Cond.static ({ cls := "java/util/Arrays", name := "copyOfRangeByte", desc := "([BII)[B" } : Jvm.MethodName)) : Jvm.Cond).before a0 Z = true := hw _ (List.mem_of_getElem? (i := 137) rfl)
theorem d_jdk_65m132_16 : decode jdk_65_method_132_code 16 = .ok (.areturn, 1) := by decide +kernel
def Q_Range (Z : State) (zC : Int32) (vF : Value) (aI : Addr) (aR : Addr) (t : Addr) (kb : ClassId) (us : List Value) (pz : Nat) (pi : Nat) (pe : Nat) (h0 : Heap) (v : Option Value) (h : Heap) (L : List Loc) : Prop := ∃ (ct : Addr), ∃ (kc : ClassId), v = some (.ref ct) ∧ Fr Z.heap.size L ∧ Keep h0 h [] ∧ h0.size ≤ ct ∧ Arv Z h ct kc .byte (Int32.ofNat (pe - pi)) (ins (List.replicate (pe - pi) (.int 0)) (sub us pi (pe - pi) (.int 0)) 0 (pe - pi)) (.int 0) ∧ Exa Z h ct "[B"
theorem rm_Range (l : Launch) (Z : State) (a0 : Array Value) (hw : HW a0 Z) (zC : Int32) (SC : tSC Z zC) (PC : ¬ zC = (0 : Int32)) (vF : Value) (rF : vF = .null ∨ ∃ a, vF = .ref a) (SF : tSF Z vF) (aI : Addr) (SI : tSI Z aI) (aR : Addr) (SR : tSR Z aR) (t : Addr) (kb : ClassId) (us : List Value) (pz : Nat) (pi : Nat) (pe : Nat) (h0 : Heap) (O0 : Old Z Z.heap.size h0) (Pa : Arv Z h0 t kb .byte (Int32.ofNat pz) us (.int 0)) (Pl : (us.length = pz)) (Hz : (pz ≤ 5)) (H1 : (pi < pe)) (H2 : (pe ≤ pz)) (H3 : (¬ (pi = 0 ∧ pe = pz))) :
    Con l Z (⟨"java/util/Arrays", "copyOfRange", "([BII)[B"⟩ : MethodName) jdk_65_method_132_code 3 (some (.array .byte)) ({ frames := 2, cells := 1, slots := 5, locals := 47 } : Room) #[(.ref t), (.int (Int32.ofNat pi)), (.int (Int32.ofNat pe))] h0 (Q_Range Z zC vF aI aR t kb us pz pi pe h0) := by
  refine Con.intro (plainFor_of_name pn6) ?_
  intro p e s m below meth c T0 X0 hx hby hml hown0 hnm hret hlk hZ0 e0
  have N0 := Fr.nil Z.heap.size
  refine castGo (g' := mkF m 0 #[.val (.ref t), .val (.int (Int32.ofNat pi)), .val (.int (Int32.ofNat pe))] []) (by first | rfl | (simp [entryFrame, mkF, argsToLocals, Value.category]; done)) ?_
  show Go _ _ _ _ (T0.setTop (mkF m 0 #[.val (.ref t), .val (.int (Int32.ofNat pi)), .val (.int (Int32.ofNat pe))] []))
  refine iL X0 hx (hb hby d_jdk_65m132_0) (q := 1) rfl rfl ?_
  rcases Nat.eq_zero_or_pos pi with hp | hp
  · have hq : Int32.ofNat pi = 0 := by rw [hp]; rfl
    show Go _ _ _ _ (T0.setTop (mkF m 1 #[.val (.ref t), .val (.int (Int32.ofNat pi)), .val (.int (Int32.ofNat pe))] [(.int (Int32.ofNat pi))]))
    refine ifN X0 hx (hb hby d_jdk_65m132_1) (q := 4) rfl ((if0 _ _).trans (teq hq).2) ?_
    refine iL X0 hx (hb hby d_jdk_65m132_4) (q := 5) rfl rfl ?_
    refine aL X0 hx (hb hby d_jdk_65m132_5) (q := 6) rfl rfl rfl ?_
    refine g_len X0 hx hZ0 Pa e0 (hb hby d_jdk_65m132_6) (q := 7) rfl ?_
    refine icN X0 hx (hb hby d_jdk_65m132_7) (q := 10) rfl (feq (on_ne (show pe < pz from by omega) (show pz < 2147483648 from by omega))).1 ?_
    refine aL X0 hx (hb hby d_jdk_65m132_10) (q := 11) rfl rfl rfl ?_
    refine iL X0 hx (hb hby d_jdk_65m132_11) (q := 12) rfl rfl ?_
    refine iL X0 hx (hb hby d_jdk_65m132_12) (q := 13) rfl rfl ?_
    refine g_st X0 hx hZ0 hown0 (wd136 hw) (wd137 hw) (wd134 hw) (wd138 hw) (by decide) e0 (Con.back (W := 0) (rm_eByte l Z a0 hw zC SC PC vF rF SF aI SI aR SR t kb us pz pi pe h0 O0 Pa Pl Hz H1 H2 H3) hZ0 (wd138 hw) (wd134 hw) (by decide) (by decide)) (by rw [hml]; rfl) (lenOf pd7 rfl) rfl (Nat.le_of_eq rfl) (hb hby d_jdk_65m132_13) (q := 16) rfl (by decide) (by decide) ?_
    intro v96 T96 L96 X96 Q96
    obtain ⟨ct_96, kc_96, rfl, Nq96, K96q, q96_0, q96_1, q96_2⟩ := Q96
    have N96 := Fr.app N0 Nq96
    show Go _ _ _ _ (T96.setTop (mkF m 16 #[.val (.ref t), .val (.int (Int32.ofNat pi)), .val (.int (Int32.ofNat pe))] [(.ref ct_96)]))
    have K97 : Keep h0 T96.heap [] := (Keep.refl h0 []).trans K96q all0
    have gh98 : h0.size ≤ ct_96 := Nat.le_trans (Nat.le_refl _) q96_0
    refine endP X96 hlk (fun h => by rw [hret] at h; cases h) (lastA X96 hx hret rfl rfl rfl (hb hby d_jdk_65m132_16)) ?_ (by decide) (by decide)
    exact ⟨ct_96, kc_96, rfl, N96, K97, gh98, q96_1, q96_2⟩
  · have hq : ¬ Int32.ofNat pi = 0 := fun q => on_ne (i := 0) hp (show pi < 2147483648 from by omega) q.symm
    show Go _ _ _ _ (T0.setTop (mkF m 1 #[.val (.ref t), .val (.int (Int32.ofNat pi)), .val (.int (Int32.ofNat pe))] [(.int (Int32.ofNat pi))]))
    refine ifY X0 hx (hb hby d_jdk_65m132_1) (q := 10) (by decide) (by decide) ((if0 _ _).trans (feq hq).2) ?_
    refine aL X0 hx (hb hby d_jdk_65m132_10) (q := 11) rfl rfl rfl ?_
    refine iL X0 hx (hb hby d_jdk_65m132_11) (q := 12) rfl rfl ?_
    refine iL X0 hx (hb hby d_jdk_65m132_12) (q := 13) rfl rfl ?_
    refine g_st X0 hx hZ0 hown0 (wd136 hw) (wd137 hw) (wd134 hw) (wd138 hw) (by decide) e0 (Con.back (W := 0) (rm_eByte l Z a0 hw zC SC PC vF rF SF aI SI aR SR t kb us pz pi pe h0 O0 Pa Pl Hz H1 H2 H3) hZ0 (wd138 hw) (wd134 hw) (by decide) (by decide)) (by rw [hml]; rfl) (lenOf pd7 rfl) rfl (Nat.le_of_eq rfl) (hb hby d_jdk_65m132_13) (q := 16) rfl (by decide) (by decide) ?_
    intro v99 T99 L99 X99 Q99
    obtain ⟨ct_99, kc_99, rfl, Nq99, K99q, q99_0, q99_1, q99_2⟩ := Q99
    have N99 := Fr.app N0 Nq99
    show Go _ _ _ _ (T99.setTop (mkF m 16 #[.val (.ref t), .val (.int (Int32.ofNat pi)), .val (.int (Int32.ofNat pe))] [(.ref ct_99)]))
    have K100 : Keep h0 T99.heap [] := (Keep.refl h0 []).trans K99q all0
    have gh101 : h0.size ≤ ct_99 := Nat.le_trans (Nat.le_refl _) q99_0
    refine endP X99 hlk (fun h => by rw [hret] at h; cases h) (lastA X99 hx hret rfl rfl rfl (hb hby d_jdk_65m132_16)) ?_ (by decide) (by decide)
    exact ⟨ct_99, kc_99, rfl, N99, K100, gh101, q99_1, q99_2⟩
theorem d_jdk_42m151_0 : decode jdk_42_method_151_code 0 = .ok (.aload_n 0, 1) := by decide +kernel
theorem d_jdk_42m151_1 : decode jdk_42_method_151_code 1 = .ok (.invokespecial 1, 3) := by decide +kernel
theorem wd28 {a0 : Array Value} {Z : State} (hw : HW a0 Z) : ((Jvm.Cond.methodLink "java/lang/String" (1 : Nat) ({ cls := "java/lang/Object", name := "<init>", desc := "()V" } : Jvm.MethodName)) : Jvm.Cond).before a0 Z = true := hw _ (List.mem_of_getElem? (i := 28) rfl)
theorem wd29 {a0 : Array Value} {Z : State} (hw : HW a0 Z) : ((Jvm.Cond.instanceMethod ({ cls := "java/lang/Object", name := "<init>", desc := "()V" } : Jvm.MethodName)) : Jvm.Cond).before a0 Z = true := hw _ (List.mem_of_getElem? (i := 29) rfl)
theorem wd30 {a0 : Array Value} {Z : State} (hw : HW a0 Z) : ((Jvm.Cond.code ({ cls := "java/lang/Object", name := "<init>", desc := "()V" } : Jvm.MethodName) object_method_1_code (1 : Nat) (Option.none : Option Jvm.ClassFile.FieldType)) : Jvm.Cond).before a0 Z = true := hw _ (List.mem_of_getElem? (i := 30) rfl)
theorem d_jdk_42m151_4 : decode jdk_42_method_151_code 4 = .ok (.aload_n 0, 1) := by decide +kernel
theorem d_jdk_42m151_5 : decode jdk_42_method_151_code 5 = .ok (.aload_n 1, 1) := by decide +kernel
theorem d_jdk_42m151_6 : decode jdk_42_method_151_code 6 = .ok (.putfield 9, 3) := by decide +kernel
theorem wd46 {a0 : Array Value} {Z : State} (hw : HW a0 Z) : ((Jvm.Cond.laysFinal "java/lang/String" "java/lang/String" "value" "[B") : Jvm.Cond).before a0 Z = true := hw _ (List.mem_of_getElem? (i := 46) rfl)
theorem wd19 {a0 : Array Value} {Z : State} (hw : HW a0 Z) : ((Jvm.Cond.instantiable "java/lang/String" (4 : Nat)) : Jvm.Cond).before a0 Z = true := hw _ (List.mem_of_getElem? (i := 19) rfl)
theorem d_jdk_42m151_9 : decode jdk_42_method_151_code 9 = .ok (.aload_n 0, 1) := by decide +kernel
theorem d_jdk_42m151_10 : decode jdk_42_method_151_code 10 = .ok (.iload_n 2, 1) := by decide +kernel
theorem d_jdk_42m151_11 : decode jdk_42_method_151_code 11 = .ok (.putfield 15, 3) := by decide +kernel
theorem wd44 {a0 : Array Value} {Z : State} (hw : HW a0 Z) : ((Jvm.Cond.laysFinal "java/lang/String" "java/lang/String" "coder" "B") : Jvm.Cond).before a0 Z = true := hw _ (List.mem_of_getElem? (i := 44) rfl)
theorem d_jdk_42m151_14 : decode jdk_42_method_151_code 14 = .ok (.return_, 1) := by decide +kernel
def Q_newbb (Z : State) (zC : Int32) (vF : Value) (aI : Addr) (aR : Addr) (a1 : Addr) (a2 : Addr) (h0 : Heap) (v : Option Value) (h : Heap) (L : List Loc) : Prop := v = none ∧ Fr Z.heap.size L ∧ Keep h0 h [a1] ∧ Exa Z h a1 sT0 ∧ Fld Z h a1 sT0 "coder" "B" (iv 0) ∧ Fld Z h a1 sT0 "value" "[B" (.ref a2)
theorem rm_newbb (l : Launch) (Z : State) (a0 : Array Value) (hw : HW a0 Z) (zC : Int32) (SC : tSC Z zC) (PC : ¬ zC = (0 : Int32)) (vF : Value) (rF : vF = .null ∨ ∃ a, vF = .ref a) (SF : tSF Z vF) (aI : Addr) (SI : tSI Z aI) (aR : Addr) (SR : tSR Z aR) (a1 : Addr) (a2 : Addr) (h0 : Heap) (O0 : Old Z Z.heap.size h0) (P1 : Exa Z h0 a1 sT0) (P2 : Fld Z h0 a1 sT0 "value" "[B" .null) (P3 : Fld Z h0 a1 sT0 "coder" "B" (iv 0)) (P4 : Z.heap.size ≤ a1) :
    Con l Z (⟨sT0, "<init>", "([BB)V"⟩ : MethodName) jdk_42_method_151_code 3 none ({ frames := 1, cells := 0, slots := 0, locals := 12 } : Room) #[(.ref a1), (.ref a2), (iv 0)] h0 (Q_newbb Z zC vF aI aR a1 a2 h0) := by
  refine Con.intro (plainFor_of_name pn3) ?_
  intro p e s m below meth c T0 X0 hx hby hml hown0 hnm hret hlk hZ0 e0
  have N0 := Fr.nil Z.heap.size
  refine castGo (g' := mkF m 0 #[.val (.ref a1), .val (.ref a2), .val (iv 0)] []) (by first | rfl | (simp [entryFrame, mkF, argsToLocals, Value.category]; done)) ?_
  show Go _ _ _ _ (T0.setTop (mkF m 0 #[.val (.ref a1), .val (.ref a2), .val (iv 0)] []))
  refine aL X0 hx (hb hby d_jdk_42m151_0) (q := 1) rfl rfl rfl ?_
  refine g_init0 X0 hx hZ0 hown0 (wd28 hw) (wd29 hw) (wd30 hw) (by rw [hml]; rfl) (by decide) (W := 0) (Nat.le_of_eq rfl) (by decide) e0 (hb hby d_jdk_42m151_1) (q := 4) rfl ?_
  intro T102 X102 e102
  refine aL X102 hx (hb hby d_jdk_42m151_4) (q := 5) rfl rfl rfl ?_
  refine aL X102 hx (hb hby d_jdk_42m151_5) (q := 6) rfl rfl rfl ?_
  refine g_putF X102 hx hZ0 hown0 (host := "") (Or.inl (wd45 hw)) Via.refl P2 P1 (Or.inr ⟨(wd46 hw), rfl, hnm⟩) (wd19 hw) (ty := (.array .byte)) (by decide) rfl rfl e102 (hb hby d_jdk_42m151_6) (q := 9) rfl ?_
  intro T103 h103 X103 e103 W103
  have N103 := Fr.snoc X103 N0 P4
  have Fw103 : Fld Z h103 a1 sT0 "value" "[B" (.ref a2) := P2.same W103
  refine aL X103 hx (hb hby d_jdk_42m151_9) (q := 10) rfl rfl rfl ?_
  refine iL X103 hx (hb hby d_jdk_42m151_10) (q := 11) rfl rfl ?_
  have f104 := P3.other W103 (Or.inr (slot_ne (Or.inr (wd44 hw)) (Or.inr (wd46 hw)) (by decide) (t := .byte) (t' := (.array .byte)) (by decide) (by decide)))
  have f105 := P1.wr W103
  refine g_putF X103 hx hZ0 hown0 (host := "") (Or.inl (wd43 hw)) Via.refl f104 f105 (Or.inr ⟨(wd44 hw), rfl, hnm⟩) (wd19 hw) (ty := .byte) (by decide) rfl rfl e103 (hb hby d_jdk_42m151_11) (q := 14) rfl ?_
  intro T106 h106 X106 e106 W106
  have N106 := Fr.snoc X106 N103 P4
  have Fw106 : Fld Z h106 a1 sT0 "coder" "B" (iv 0) := f104.same W106
  have K107 : Keep h0 h103 [a1] := (Keep.refl h0 [a1]).wr W103 (Or.inl (by simp))
  have K108 : Keep h0 h106 [a1] := K107.wr W106 (Or.inl (by simp))
  have f109 := f105.wr W106
  have f110 := Fw103.other W106 (Or.inr (slot_ne (Or.inr (wd46 hw)) (Or.inr (wd44 hw)) (by decide) (t := (.array .byte)) (t' := .byte) (by decide) (by decide)))
  refine endP X106 hlk (fun _ => rfl) (lastV X106 hx hret (hb hby d_jdk_42m151_14)) ?_ (by decide) (by decide)
  rw [e106]
  exact ⟨rfl, N106, K108, f109, Fw106, f110⟩
theorem d_jdk_43m47_0 : decode jdk_43_method_47_code 0 = .ok (.iload_n 2, 1) := by decide +kernel
theorem d_jdk_43m47_1 : decode jdk_43_method_47_code 1 = .ok (.ifCond .ne 6, 3) := by decide +kernel
theorem d_jdk_43m47_7 : decode jdk_43_method_47_code 7 = .ok (.new 1, 3) := by decide +kernel
theorem wd131 {a0 : Array Value} {Z : State} (hw : HW a0 Z) : ((Jvm.Cond.classLink "java/lang/StringLatin1" (1 : Nat) "java/lang/String") : Jvm.Cond).before a0 Z = true := hw _ (List.mem_of_getElem? (i := 131) rfl)
theorem d_jdk_43m47_10 : decode jdk_43_method_47_code 10 = .ok (.dup, 1) := by decide +kernel
theorem d_jdk_43m47_11 : decode jdk_43_method_47_code 11 = .ok (.aload_n 0, 1) := by decide +kernel
theorem d_jdk_43m47_12 : decode jdk_43_method_47_code 12 = .ok (.iload_n 1, 1) := by decide +kernel
theorem d_jdk_43m47_13 : decode jdk_43_method_47_code 13 = .ok (.iload_n 1, 1) := by decide +kernel
theorem d_jdk_43m47_14 : decode jdk_43_method_47_code 14 = .ok (.iload_n 2, 1) := by decide +kernel
theorem d_jdk_43m47_15 : decode jdk_43_method_47_code 15 = .ok (.iadd, 1) := by decide +kernel
theorem d_jdk_43m47_16 : decode jdk_43_method_47_code 16 = .ok (.invokestatic 232, 3) := by decide +kernel
theorem wd135 {a0 : Array Value} {Z : State} (hw : HW a0 Z) : ((Jvm.Cond.code ({ cls := "java/util/Arrays", name := "copyOfRange", desc := "([BII)[B" } : Jvm.MethodName) jdk_65_method_132_code (3 : Nat) (Option.some (Jvm.ClassFile.FieldType.array Jvm.ClassFile.FieldType.byte))) : Jvm.Cond).before a0 Z = true := hw _ (List.mem_of_getElem? (i := 135) rfl)
theorem wd132 {a0 : Array Value} {Z : State} (hw : HW a0 Z) : ((Jvm.Cond.methodLink "java/lang/StringLatin1" (232 : Nat) ({ cls := "java/util/Arrays", name := "copyOfRange", desc := "([BII)[B" } : Jvm.MethodName)) : Jvm.Cond).before a0 Z = true := hw _ (List.mem_of_getElem? (i := 132) rfl)
theorem wd133 {a0 : Array Value} {Z : State} (hw : HW a0 Z) : ((Jvm.Cond.static ({ cls := "java/util/Arrays", name := "copyOfRange", desc := "([BII)[B" } : Jvm.MethodName)) : Jvm.Cond).before a0 Z = true := hw _ (List.mem_of_getElem? (i := 133) rfl)
theorem d_jdk_43m47_19 : decode jdk_43_method_47_code 19 = .ok (.iconst 0, 1) := by decide +kernel
theorem d_jdk_43m47_20 : decode jdk_43_method_47_code 20 = .ok (.invokespecial 112, 3) := by decide +kernel
theorem wd149 {a0 : Array Value} {Z : State} (hw : HW a0 Z) : ((Jvm.Cond.code ({ cls := "java/lang/String", name := "<init>", desc := "([BB)V" } : Jvm.MethodName) jdk_42_method_151_code (3 : Nat) (Option.none : Option Jvm.ClassFile.FieldType)) : Jvm.Cond).before a0 Z = true := hw _ (List.mem_of_getElem? (i := 149) rfl)
theorem pd8 : parseMethodDescriptor "([BB)V" = some ⟨[(.array .byte), .byte], none⟩ := by decide +kernel
theorem wd147 {a0 : Array Value} {Z : State} (hw : HW a0 Z) : ((Jvm.Cond.methodLink "java/lang/StringLatin1" (112 : Nat) ({ cls := "java/lang/String", name := "<init>", desc := "([BB)V" } : Jvm.MethodName)) : Jvm.Cond).before a0 Z = true := hw _ (List.mem_of_getElem? (i := 147) rfl)
theorem wd148 {a0 : Array Value} {Z : State} (hw : HW a0 Z) : ((Jvm.Cond.instanceMethod ({ cls := "java/lang/String", name := "<init>", desc := "([BB)V" } : Jvm.MethodName)) : Jvm.Cond).before a0 Z = true := hw _ (List.mem_of_getElem? (i := 148) rfl)
theorem d_jdk_43m47_23 : decode jdk_43_method_47_code 23 = .ok (.areturn, 1) := by decide +kernel
def Q_nstr (Z : State) (zC : Int32) (vF : Value) (aI : Addr) (aR : Addr) (t : Addr) (kb : ClassId) (us : List Value) (pz : Nat) (pi : Nat) (pm : Nat) (h0 : Heap) (v : Option Value) (h : Heap) (L : List Loc) : Prop := ∃ (r : Addr), ∃ (ct : Addr), ∃ (kc : ClassId), v = some (.ref r) ∧ Fr Z.heap.size L ∧ Keep h0 h [] ∧ Exa Z h r sT0 ∧ Fld Z h r sT0 "coder" "B" (iv 0) ∧ Fld Z h r sT0 "value" "[B" (.ref ct) ∧ Arv Z h ct kc .byte (Int32.ofNat pm) (sub us pi pm (.int 0)) (.int 0)
theorem rm_nstr (l : Launch) (Z : State) (a0 : Array Value) (hw : HW a0 Z) (zC : Int32) (SC : tSC Z zC) (PC : ¬ zC = (0 : Int32)) (vF : Value) (rF : vF = .null ∨ ∃ a, vF = .ref a) (SF : tSF Z vF) (aI : Addr) (SI : tSI Z aI) (aR : Addr) (SR : tSR Z aR) (t : Addr) (kb : ClassId) (us : List Value) (pz : Nat) (pi : Nat) (pm : Nat) (h0 : Heap) (O0 : Old Z Z.heap.size h0) (Pa : Arv Z h0 t kb .byte (Int32.ofNat pz) us (.int 0)) (Pl : (us.length = pz)) (Hz : (pz ≤ 5)) (H1 : (pi + pm ≤ pz)) (H2 : (0 < pm)) (H3 : (¬ (pi = 0 ∧ pm = pz))) :
    Con l Z (⟨"java/lang/StringLatin1", "newString", "([BII)Ljava/lang/String;"⟩ : MethodName) jdk_43_method_47_code 3 (some (.object sT0)) ({ frames := 3, cells := 2, slots := 9, locals := 63 } : Room) #[(.ref t), (.int (Int32.ofNat pi)), (.int (Int32.ofNat pm))] h0 (Q_nstr Z zC vF aI aR t kb us pz pi pm h0) := by
  refine Con.intro (plainFor_of_name pn2) ?_
  intro p e s m below meth c T0 X0 hx hby hml hown0 hnm hret hlk hZ0 e0
  have N0 := Fr.nil Z.heap.size
  refine castGo (g' := mkF m 0 #[.val (.ref t), .val (.int (Int32.ofNat pi)), .val (.int (Int32.ofNat pm))] []) (by first | rfl | (simp [entryFrame, mkF, argsToLocals, Value.category]; done)) ?_
  show Go _ _ _ _ (T0.setTop (mkF m 0 #[.val (.ref t), .val (.int (Int32.ofNat pi)), .val (.int (Int32.ofNat pm))] []))
  refine iL X0 hx (hb hby d_jdk_43m47_0) (q := 1) rfl rfl ?_
  refine ifY X0 hx (hb hby d_jdk_43m47_1) (q := 7) (by decide) (by decide) ((if0 _ _).trans (feq (fun q => on_ne (i := 0) (show 0 < pm from by omega) (show pm < 2147483648 from by omega) q.symm)).2) ?_
  refine g_new X0 hx hZ0 hown0 (wd131 hw) (wd19 hw) (wd20 hw) (by decide) (by decide) e0 (hb hby d_jdk_43m47_7) (q := 10) rfl ?_
  intro T111 h111 b111 g111 X111 e111 E111 A111 D111
  have F111_44 := D111 (Or.inr (wd44 hw)) (ty := .byte) (by decide)
  have F111_46 := D111 (Or.inr (wd46 hw)) (ty := (.array .byte)) (by decide)
  refine g_dup X111 hx (hb hby d_jdk_43m47_10) (q := 11) rfl rfl ?_
  refine aL X111 hx (hb hby d_jdk_43m47_11) (q := 12) rfl rfl rfl ?_
  refine iL X111 hx (hb hby d_jdk_43m47_12) (q := 13) rfl rfl ?_
  refine iL X111 hx (hb hby d_jdk_43m47_13) (q := 14) rfl rfl ?_
  refine iL X111 hx (hb hby d_jdk_43m47_14) (q := 15) rfl rfl ?_
  refine g_iadd X111 hx (hb hby d_jdk_43m47_15) (q := 16) rfl (z := (Int32.ofNat (pi + pm))) (on_add (pi) pm) ?_
  have f114 := Pa.ext E111
  have f115 := O0.ext E111
  refine g_st X111 hx hZ0 hown0 (wd132 hw) (wd133 hw) (wd134 hw) (wd135 hw) (by decide) e111 (Con.back (W := 2) (rm_Range l Z a0 hw zC SC PC vF rF SF aI SI aR SR t kb us pz pi (pi + pm) h111 f115 f114 Pl Hz (show pi < (pi + pm) from by omega) (show (pi + pm) ≤ pz from by omega) (show ¬ (pi = 0 ∧ (pi + pm) = pz) from by omega)) hZ0 (wd135 hw) (wd134 hw) (by decide) (by decide)) (by rw [hml]; rfl) (lenOf pd7 rfl) rfl (Nat.le_of_eq rfl) (hb hby d_jdk_43m47_16) (q := 19) rfl (by decide) (by decide) ?_
  intro v113 T113 L113 X113 Q113
  obtain ⟨ct_113, kc_113, rfl, Nq113, K113q, q113_0, q113_1, q113_2⟩ := Q113
  have N113 := Fr.app N0 Nq113
  show Go _ _ _ _ (T113.setTop (mkF m 19 #[.val (.ref t), .val (.int (Int32.ofNat pi)), .val (.int (Int32.ofNat pm))] [(.ref ct_113), (.ref b111), (.ref b111)]))
  refine cI X113 hx (hb hby d_jdk_43m47_19) (q := 20) rfl (z := (0 : Int32)) rfl ?_
  have f121 := A111.keep K113q
  have f122 := F111_46.keep K113q nin0
  have f123 := F111_44.keep K113q nin0
  have gz124 : Z.heap.size ≤ b111 := Nat.le_trans O0.2.1 (Nat.le_of_eq g111.symm)
  have f125 := f115.keep K113q all0
  refine g_sp X113 hx hZ0 hown0 (wd147 hw) (wd148 hw) (wd149 hw) rfl (by decide) rfl (Con.back (W := 1) (rm_newbb l Z a0 hw zC SC PC vF rF SF aI SI aR SR b111 ct_113 T113.heap f125 f121 f122 f123 gz124) hZ0 (wd149 hw) (wd20 hw) (by decide) (by decide)) (by rw [hml]; rfl) (lenOf pd8 rfl) rfl (Nat.le_of_eq rfl) (hb hby d_jdk_43m47_20) (q := 23) rfl (by decide) (by decide) ?_
  intro v120 T120 L120 X120 Q120
  obtain ⟨rfl, Nq120, K120q, q120_0, q120_1, q120_2⟩ := Q120
  have N120 := Fr.app N113 Nq120
  show Go _ _ _ _ (T120.setTop (mkF m 23 #[.val (.ref t), .val (.int (Int32.ofNat pi)), .val (.int (Int32.ofNat pm))] [(.ref b111)]))
  have K126 : Keep h0 h111 [] := (Keep.refl h0 []).ext E111
  have K127 : Keep h0 T113.heap [] := K126.trans K113q all0
  have gh128 : h0.size ≤ b111 := Nat.le_trans (Nat.le_refl _) (Nat.le_of_eq g111.symm)
  have K129 : Keep h0 T120.heap [] := K127.trans K120q (allS (Or.inr gh128) all0)
  have ne130 : ct_113 ≠ b111 := (Nat.ne_of_gt (Nat.lt_of_lt_of_le (Nat.lt_of_lt_of_le A111.lt (Nat.le_refl _)) q113_0))
  have f131 := q113_1.keep K120q (ninS ne130 nin0)
  refine endP X120 hlk (fun h => by rw [hret] at h; cases h) (lastA X120 hx hret rfl rfl rfl (hb hby d_jdk_43m47_23)) ?_ (by decide) (by decide)
  exact ⟨b111, ct_113, kc_113, rfl, N120, K129, q120_0, q120_1, q120_2, (by have q := f131; rw [show pi + pm - pi = pm by omega, ins_all sub_len] at q; exact q)⟩
theorem d_jdk_43m47_4 : decode jdk_43_method_47_code 4 = .ok (.ldc 151, 2) := by decide +kernel
theorem d_jdk_43m47_6 : decode jdk_43_method_47_code 6 = .ok (.areturn, 1) := by decide +kernel
def Q_nstr0 (Z : State) (zC : Int32) (vF : Value) (aI : Addr) (aR : Addr) (t : Addr) (pi : Int32) (h0 : Heap) (v : Option Value) (h : Heap) (L : List Loc) : Prop := ∃ (r : Addr), ∃ (ct : Addr), ∃ (kc : ClassId), v = some (.ref r) ∧ Fr Z.heap.size L ∧ Keep h0 h [] ∧ Exa Z h r sT0 ∧ Fld Z h r sT0 "coder" "B" (iv 0) ∧ Fld Z h r sT0 "value" "[B" (.ref ct) ∧ Arv Z h ct kc .byte (0 : Int32) [] (.int 0)
theorem rm_nstr0 (l : Launch) (Z : State) (a0 : Array Value) (hw : HW a0 Z) (zC : Int32) (SC : tSC Z zC) (PC : ¬ zC = (0 : Int32)) (vF : Value) (rF : vF = .null ∨ ∃ a, vF = .ref a) (SF : tSF Z vF) (aI : Addr) (SI : tSI Z aI) (aR : Addr) (SR : tSR Z aR) (t : Addr) (pi : Int32) (h0 : Heap) (O0 : Old Z Z.heap.size h0)  :
    ConS l Z EL (⟨"java/lang/StringLatin1", "newString", "([BII)Ljava/lang/String;"⟩ : MethodName) jdk_43_method_47_code 3 (some (.object sT0)) ({ frames := 0, cells := 2, slots := 4, locals := 0 } : Room) #[(.ref t), (.int pi), (iv 0)] h0 [] (Q_nstr0 Z zC vF aI aR t pi h0) := by
  refine ConS.intro (plainFor_of_name pn2) ?_
  intro p e s m below meth c T0 v0 X0 hx hby hml hown0 hnm hret hlk hZ0 e0 hS0 C0 hsl0
  have N0 := Fr.nil Z.heap.size
  refine castGo (g' := mkF m 0 #[.val (.ref t), .val (.int pi), .val (iv 0)] []) (by first | rfl | (simp [entryFrame, mkF, argsToLocals, Value.category]; done)) ?_
  show Go _ _ _ _ (T0.setTop (mkF m 0 #[.val (.ref t), .val (.int pi), .val (iv 0)] []))
  refine iL X0 hx (hb hby d_jdk_43m47_0) (q := 1) rfl rfl ?_
  refine ifN X0 hx (hb hby d_jdk_43m47_1) (q := 4) rfl (by decide) ?_
  refine g_ldc X0 hx hZ0 hown0 (wd106 hw) (own_wS hw) hS0 (Nat.zero_le _) (own_EW hw) (by simp [EL]) C0.1 (vs := []) (z := (0 : Int32)) ⟨by decide, by decide⟩ (by decide) (by decide) (n := 0) (by decide) (by decide) (by decide) (by decide) e0 (hb hby d_jdk_43m47_4) (q := 6) rfl ?_
  intro b132 T132 h132 kk132 d132 k132 X132 e132 E132 hS132 hk132 hZ132 hown132 A132 Fc132 Fv132 V132 lta132 ltb132 R132 sn132
  have K133 : Keep h0 h132 [] := (Keep.refl h0 []).ext E132
  have f134 := C0.trans R132
  refine endC X132 hlk hS132 (by rw [e132]; exact (Nat.le_trans hk132 (Nat.le_refl _))) hZ132 (own_EW hw) (by rw [e132]; exact f134) (fun h => by rw [hret] at h; cases h) (lastA X132 hx hret rfl rfl rfl (hb hby d_jdk_43m47_6)) ?_ (by decide) (by decide)
  rw [e132]
  exact ⟨b132, d132, k132, rfl, N0, K133, A132, Fc132, Fv132, V132⟩
theorem d_jdk_41m12_0 : decode jdk_41_method_12_code 0 = .ok (.iload_n 0, 1) := by decide +kernel
theorem d_jdk_41m12_1 : decode jdk_41_method_12_code 1 = .ok (.ifCond .lt 13, 3) := by decide +kernel
theorem d_jdk_41m12_4 : decode jdk_41_method_12_code 4 = .ok (.iload_n 0, 1) := by decide +kernel
theorem d_jdk_41m12_5 : decode jdk_41_method_12_code 5 = .ok (.iload_n 1, 1) := by decide +kernel
theorem d_jdk_41m12_6 : decode jdk_41_method_12_code 6 = .ok (.if_icmp .gt 8, 3) := by decide +kernel
theorem d_jdk_41m12_9 : decode jdk_41_method_12_code 9 = .ok (.iload_n 1, 1) := by decide +kernel
theorem d_jdk_41m12_10 : decode jdk_41_method_12_code 10 = .ok (.iload_n 2, 1) := by decide +kernel
theorem d_jdk_41m12_11 : decode jdk_41_method_12_code 11 = .ok (.if_icmp .le 11, 3) := by decide +kernel
theorem d_jdk_41m12_22 : decode jdk_41_method_12_code 22 = .ok (.iload_n 0, 1) := by decide +kernel
theorem d_jdk_41m12_23 : decode jdk_41_method_12_code 23 = .ok (.ireturn, 1) := by decide +kernel
def Q_cftn (Z : State) (zC : Int32) (vF : Value) (aI : Addr) (aR : Addr) (pe : Nat) (h0 : Heap) (v : Option Value) (h : Heap) (L : List Loc) : Prop := v = some (iv 0) ∧ Fr Z.heap.size L ∧ h = h0
theorem pn7 : plainName "jdk/internal/util/Preconditions" = true := by first | (simp [plainName, overriddenIn]; done) | decide +kernel
theorem rm_cftn (l : Launch) (Z : State) (a0 : Array Value) (hw : HW a0 Z) (zC : Int32) (SC : tSC Z zC) (PC : ¬ zC = (0 : Int32)) (vF : Value) (rF : vF = .null ∨ ∃ a, vF = .ref a) (SF : tSF Z vF) (aI : Addr) (SI : tSI Z aI) (aR : Addr) (SR : tSR Z aR) (pe : Nat) (h0 : Heap) (O0 : Old Z Z.heap.size h0) (He : (pe < 5)) :
    Con l Z (⟨"jdk/internal/util/Preconditions", "checkFromToIndex", "(IIILjava/util/function/BiFunction;)I"⟩ : MethodName) jdk_41_method_12_code 4 (some .int) ({ frames := 0, cells := 0, slots := 0, locals := 0 } : Room) #[(iv 0), (.int (Int32.ofNat pe)), (iv 5), .null] h0 (Q_cftn Z zC vF aI aR pe h0) := by
  refine Con.intro (plainFor_of_name pn7) ?_
  intro p e s m below meth c T0 X0 hx hby hml hown0 hnm hret hlk hZ0 e0
  have N0 := Fr.nil Z.heap.size
  refine castGo (g' := mkF m 0 #[.val (iv 0), .val (.int (Int32.ofNat pe)), .val (iv 5), .val .null] []) (by first | rfl | (simp [entryFrame, mkF, argsToLocals, Value.category]; done)) ?_
  show Go _ _ _ _ (T0.setTop (mkF m 0 #[.val (iv 0), .val (.int (Int32.ofNat pe)), .val (iv 5), .val .null] []))
  refine iL X0 hx (hb hby d_jdk_41m12_0) (q := 1) rfl rfl ?_
  refine ifN X0 hx (hb hby d_jdk_41m12_1) (q := 4) rfl (by decide) ?_
  refine iL X0 hx (hb hby d_jdk_41m12_4) (q := 5) rfl rfl ?_
  refine iL X0 hx (hb hby d_jdk_41m12_5) (q := 6) rfl rfl ?_
  refine icN X0 hx (hb hby d_jdk_41m12_6) (q := 9) rfl (flt (on_nn (show pe < 2147483648 from by omega))).2.2.1 ?_
  refine iL X0 hx (hb hby d_jdk_41m12_9) (q := 10) rfl rfl ?_
  refine iL X0 hx (hb hby d_jdk_41m12_10) (q := 11) rfl rfl ?_
  refine icY X0 hx (hb hby d_jdk_41m12_11) (q := 22) (by decide) (by decide) (flt (on_le (b := 5) (show pe ≤ 5 from by omega) (by decide))).2.2.2 ?_
  refine iL X0 hx (hb hby d_jdk_41m12_22) (q := 23) rfl rfl ?_
  refine endP X0 hlk (fun h => by rw [hret] at h; cases h) (lastI X0 hx hret (hb hby d_jdk_41m12_23)) ?_ (by decide) (by decide)
  rw [e0]
  exact ⟨rfl, N0, rfl⟩
def Q_cftr (Z : State) (zC : Int32) (vF : Value) (aI : Addr) (aR : Addr) (pe : Nat) (a1 : Addr) (h0 : Heap) (v : Option Value) (h : Heap) (L : List Loc) : Prop := v = some (iv 0) ∧ Fr Z.heap.size L ∧ h = h0
theorem rm_cftr (l : Launch) (Z : State) (a0 : Array Value) (hw : HW a0 Z) (zC : Int32) (SC : tSC Z zC) (PC : ¬ zC = (0 : Int32)) (vF : Value) (rF : vF = .null ∨ ∃ a, vF = .ref a) (SF : tSF Z vF) (aI : Addr) (SI : tSI Z aI) (aR : Addr) (SR : tSR Z aR) (pe : Nat) (a1 : Addr) (h0 : Heap) (O0 : Old Z Z.heap.size h0) (He : (pe < 5)) :
    Con l Z (⟨"jdk/internal/util/Preconditions", "checkFromToIndex", "(IIILjava/util/function/BiFunction;)I"⟩ : MethodName) jdk_41_method_12_code 4 (some .int) ({ frames := 0, cells := 0, slots := 0, locals := 0 } : Room) #[(iv 0), (.int (Int32.ofNat pe)), (iv 5), (.ref a1)] h0 (Q_cftr Z zC vF aI aR pe a1 h0) := by
  refine Con.intro (plainFor_of_name pn7) ?_
  intro p e s m below meth c T0 X0 hx hby hml hown0 hnm hret hlk hZ0 e0
  have N0 := Fr.nil Z.heap.size
  refine castGo (g' := mkF m 0 #[.val (iv 0), .val (.int (Int32.ofNat pe)), .val (iv 5), .val (.ref a1)] []) (by first | rfl | (simp [entryFrame, mkF, argsToLocals, Value.category]; done)) ?_
  show Go _ _ _ _ (T0.setTop (mkF m 0 #[.val (iv 0), .val (.int (Int32.ofNat pe)), .val (iv 5), .val (.ref a1)] []))
  refine iL X0 hx (hb hby d_jdk_41m12_0) (q := 1) rfl rfl ?_
  refine ifN X0 hx (hb hby d_jdk_41m12_1) (q := 4) rfl (by decide) ?_
  refine iL X0 hx (hb hby d_jdk_41m12_4) (q := 5) rfl rfl ?_
  refine iL X0 hx (hb hby d_jdk_41m12_5) (q := 6) rfl rfl ?_
  refine icN X0 hx (hb hby d_jdk_41m12_6) (q := 9) rfl (flt (on_nn (show pe < 2147483648 from by omega))).2.2.1 ?_
  refine iL X0 hx (hb hby d_jdk_41m12_9) (q := 10) rfl rfl ?_
  refine iL X0 hx (hb hby d_jdk_41m12_10) (q := 11) rfl rfl ?_
  refine icY X0 hx (hb hby d_jdk_41m12_11) (q := 22) (by decide) (by decide) (flt (on_le (b := 5) (show pe ≤ 5 from by omega) (by decide))).2.2.2 ?_
  refine iL X0 hx (hb hby d_jdk_41m12_22) (q := 23) rfl rfl ?_
  refine endP X0 hlk (fun h => by rw [hret] at h; cases h) (lastI X0 hx hret (hb hby d_jdk_41m12_23)) ?_ (by decide) (by decide)
  rw [e0]
  exact ⟨rfl, N0, rfl⟩
theorem d_jdk_42m158_0 : decode jdk_42_method_158_code 0 = .ok (.iload_n 0, 1) := by decide +kernel
theorem d_jdk_42m158_1 : decode jdk_42_method_158_code 1 = .ok (.iload_n 1, 1) := by decide +kernel
theorem d_jdk_42m158_2 : decode jdk_42_method_158_code 2 = .ok (.iload_n 2, 1) := by decide +kernel
theorem d_jdk_42m158_3 : decode jdk_42_method_158_code 3 = .ok (.getstatic 1053, 3) := by decide +kernel
theorem wd98 {a0 : Array Value} {Z : State} (hw : HW a0 Z) : ((Jvm.Cond.fieldLink "java/lang/String" (1053 : Nat) "jdk/internal/util/Preconditions" "SIOOBE_FORMATTER" "Ljava/util/function/BiFunction;") : Jvm.Cond).before a0 Z = true := hw _ (List.mem_of_getElem? (i := 98) rfl)
theorem d_jdk_42m158_6 : decode jdk_42_method_158_code 6 = .ok (.invokestatic 1062, 3) := by decide +kernel
theorem wd102 {a0 : Array Value} {Z : State} (hw : HW a0 Z) : ((Jvm.Cond.code ({ cls := "jdk/internal/util/Preconditions", name := "checkFromToIndex", desc := "(IIILjava/util/function/BiFunction;)I" } : Jvm.MethodName) jdk_41_method_12_code (4 : Nat) (Option.some Jvm.ClassFile.FieldType.int)) : Jvm.Cond).before a0 Z = true := hw _ (List.mem_of_getElem? (i := 102) rfl)
theorem wd99 {a0 : Array Value} {Z : State} (hw : HW a0 Z) : ((Jvm.Cond.initialized "jdk/internal/util/Preconditions") : Jvm.Cond).before a0 Z = true := hw _ (List.mem_of_getElem? (i := 99) rfl)
theorem pd9 : parseMethodDescriptor "(IIILjava/util/function/BiFunction;)I" = some ⟨[.int, .int, .int, (.object "java/util/function/BiFunction")], some .int⟩ := by decide +kernel
theorem wd100 {a0 : Array Value} {Z : State} (hw : HW a0 Z) : ((Jvm.Cond.methodLink "java/lang/String" (1062 : Nat) ({ cls := "jdk/internal/util/Preconditions", name := "checkFromToIndex", desc := "(IIILjava/util/function/BiFunction;)I" } : Jvm.MethodName)) : Jvm.Cond).before a0 Z = true := hw _ (List.mem_of_getElem? (i := 100) rfl)
theorem wd101 {a0 : Array Value} {Z : State} (hw : HW a0 Z) : ((Jvm.Cond.static ({ cls := "jdk/internal/util/Preconditions", name := "checkFromToIndex", desc := "(IIILjava/util/function/BiFunction;)I" } : Jvm.MethodName)) : Jvm.Cond).before a0 Z = true := hw _ (List.mem_of_getElem? (i := 101) rfl)
theorem d_jdk_42m158_9 : decode jdk_42_method_158_code 9 = .ok (.pop, 1) := by decide +kernel
theorem d_jdk_42m158_10 : decode jdk_42_method_158_code 10 = .ok (.return_, 1) := by decide +kernel
def Q_cbb (Z : State) (zC : Int32) (vF : Value) (aI : Addr) (aR : Addr) (pe : Nat) (h0 : Heap) (v : Option Value) (h : Heap) (L : List Loc) : Prop := v = none ∧ Fr Z.heap.size L ∧ h = h0
theorem rm_cbb (l : Launch) (Z : State) (a0 : Array Value) (hw : HW a0 Z) (zC : Int32) (SC : tSC Z zC) (PC : ¬ zC = (0 : Int32)) (vF : Value) (rF : vF = .null ∨ ∃ a, vF = .ref a) (SF : tSF Z vF) (aI : Addr) (SI : tSI Z aI) (aR : Addr) (SR : tSR Z aR) (pe : Nat) (h0 : Heap) (O0 : Old Z Z.heap.size h0) (He : (pe < 5)) :
    Con l Z (⟨sT0, "checkBoundsBeginEnd", "(III)V"⟩ : MethodName) jdk_42_method_158_code 3 none ({ frames := 1, cells := 0, slots := 0, locals := 15 } : Room) #[(iv 0), (.int (Int32.ofNat pe)), (iv 5)] h0 (Q_cbb Z zC vF aI aR pe h0) := by
  refine Con.intro (plainFor_of_name pn3) ?_
  intro p e s m below meth c T0 X0 hx hby hml hown0 hnm hret hlk hZ0 e0
  have N0 := Fr.nil Z.heap.size
  refine castGo (g' := mkF m 0 #[.val (iv 0), .val (.int (Int32.ofNat pe)), .val (iv 5)] []) (by first | rfl | (simp [entryFrame, mkF, argsToLocals, Value.category]; done)) ?_
  show Go _ _ _ _ (T0.setTop (mkF m 0 #[.val (iv 0), .val (.int (Int32.ofNat pe)), .val (iv 5)] []))
  rcases id rF with hF | ⟨aF, hF⟩
  · have SF1 : Sta Z Z.heap "jdk/internal/util/Preconditions" "SIOOBE_FORMATTER" "Ljava/util/function/BiFunction;" .null := by rw [← hF]; exact SF
    show Go _ _ _ _ (T0.setTop (mkF m 0 #[.val (iv 0), .val (.int (Int32.ofNat pe)), .val (iv 5)] []))
    refine iL X0 hx (hb hby d_jdk_42m158_0) (q := 1) rfl rfl ?_
    refine iL X0 hx (hb hby d_jdk_42m158_1) (q := 2) rfl rfl ?_
    refine iL X0 hx (hb hby d_jdk_42m158_2) (q := 3) rfl rfl ?_
    refine g_getS X0 hx hZ0 hown0 (host := "") (Or.inl (wd98 hw)) Via.refl (SF1.ext O0.2) e0 (hb hby d_jdk_42m158_3) (q := 6) rfl ?_
    intro T135 X135 e135
    refine g_st X135 hx hZ0 hown0 (wd100 hw) (wd101 hw) (wd99 hw) (wd102 hw) (by decide) e135 (Con.back (W := 0) (rm_cftn l Z a0 hw zC SC PC vF rF SF aI SI aR SR pe h0 O0 He) hZ0 (wd102 hw) (wd99 hw) (by decide) (by decide)) (by rw [hml]; rfl) (lenOf pd9 rfl) rfl (Nat.le_of_eq rfl) (hb hby d_jdk_42m158_6) (q := 9) rfl (by decide) (by decide) ?_
    intro v136 T136 L136 X136 Q136
    obtain ⟨rfl, Nq136, e136⟩ := Q136
    have N136 := Fr.app N0 Nq136
    show Go _ _ _ _ (T136.setTop (mkF m 9 #[.val (iv 0), .val (.int (Int32.ofNat pe)), .val (iv 5)] [(iv 0)]))
    refine g_pop X136 hx (hb hby d_jdk_42m158_9) (q := 10) rfl rfl ?_
    refine endP X136 hlk (fun _ => rfl) (lastV X136 hx hret (hb hby d_jdk_42m158_10)) ?_ (by decide) (by decide)
    rw [e136]
    exact ⟨rfl, N136, rfl⟩
  · have SF1 : Sta Z Z.heap "jdk/internal/util/Preconditions" "SIOOBE_FORMATTER" "Ljava/util/function/BiFunction;" (.ref aF) := by rw [← hF]; exact SF
    show Go _ _ _ _ (T0.setTop (mkF m 0 #[.val (iv 0), .val (.int (Int32.ofNat pe)), .val (iv 5)] []))
    refine iL X0 hx (hb hby d_jdk_42m158_0) (q := 1) rfl rfl ?_
    refine iL X0 hx (hb hby d_jdk_42m158_1) (q := 2) rfl rfl ?_
    refine iL X0 hx (hb hby d_jdk_42m158_2) (q := 3) rfl rfl ?_
    refine g_getS X0 hx hZ0 hown0 (host := "") (Or.inl (wd98 hw)) Via.refl (SF1.ext O0.2) e0 (hb hby d_jdk_42m158_3) (q := 6) rfl ?_
    intro T137 X137 e137
    refine g_st X137 hx hZ0 hown0 (wd100 hw) (wd101 hw) (wd99 hw) (wd102 hw) (by decide) e137 (Con.back (W := 0) (rm_cftr l Z a0 hw zC SC PC vF rF SF aI SI aR SR pe aF h0 O0 He) hZ0 (wd102 hw) (wd99 hw) (by decide) (by decide)) (by rw [hml]; rfl) (lenOf pd9 rfl) rfl (Nat.le_of_eq rfl) (hb hby d_jdk_42m158_6) (q := 9) rfl (by decide) (by decide) ?_
    intro v138 T138 L138 X138 Q138
    obtain ⟨rfl, Nq138, e138⟩ := Q138
    have N138 := Fr.app N0 Nq138
    show Go _ _ _ _ (T138.setTop (mkF m 9 #[.val (iv 0), .val (.int (Int32.ofNat pe)), .val (iv 5)] [(iv 0)]))
    refine g_pop X138 hx (hb hby d_jdk_42m158_9) (q := 10) rfl rfl ?_
    refine endP X138 hlk (fun _ => rfl) (lastV X138 hx hret (hb hby d_jdk_42m158_10)) ?_ (by decide) (by decide)
    rw [e138]
    exact ⟨rfl, N138, rfl⟩
theorem d_jdk_42m92_0 : decode jdk_42_method_92_code 0 = .ok (.aload_n 0, 1) := by decide +kernel
theorem d_jdk_42m92_1 : decode jdk_42_method_92_code 1 = .ok (.invokevirtual 505, 3) := by decide +kernel
theorem d_jdk_42m92_4 : decode jdk_42_method_92_code 4 = .ok (.istore_n 3, 1) := by decide +kernel
theorem d_jdk_42m92_5 : decode jdk_42_method_92_code 5 = .ok (.iload_n 1, 1) := by decide +kernel
theorem d_jdk_42m92_6 : decode jdk_42_method_92_code 6 = .ok (.iload_n 2, 1) := by decide +kernel
theorem d_jdk_42m92_7 : decode jdk_42_method_92_code 7 = .ok (.iload_n 3, 1) := by decide +kernel
theorem d_jdk_42m92_8 : decode jdk_42_method_92_code 8 = .ok (.invokestatic 521, 3) := by decide +kernel
theorem wd97 {a0 : Array Value} {Z : State} (hw : HW a0 Z) : ((Jvm.Cond.code ({ cls := "java/lang/String", name := "checkBoundsBeginEnd", desc := "(III)V" } : Jvm.MethodName) jdk_42_method_158_code (3 : Nat) (Option.none : Option Jvm.ClassFile.FieldType)) : Jvm.Cond).before a0 Z = true := hw _ (List.mem_of_getElem? (i := 97) rfl)
theorem pd10 : parseMethodDescriptor "(III)V" = some ⟨[.int, .int, .int], none⟩ := by decide +kernel
theorem wd95 {a0 : Array Value} {Z : State} (hw : HW a0 Z) : ((Jvm.Cond.methodLink "java/lang/String" (521 : Nat) ({ cls := "java/lang/String", name := "checkBoundsBeginEnd", desc := "(III)V" } : Jvm.MethodName)) : Jvm.Cond).before a0 Z = true := hw _ (List.mem_of_getElem? (i := 95) rfl)
theorem wd96 {a0 : Array Value} {Z : State} (hw : HW a0 Z) : ((Jvm.Cond.static ({ cls := "java/lang/String", name := "checkBoundsBeginEnd", desc := "(III)V" } : Jvm.MethodName)) : Jvm.Cond).before a0 Z = true := hw _ (List.mem_of_getElem? (i := 96) rfl)
theorem d_jdk_42m92_11 : decode jdk_42_method_92_code 11 = .ok (.iload_n 1, 1) := by decide +kernel
theorem d_jdk_42m92_12 : decode jdk_42_method_92_code 12 = .ok (.ifCond .ne 10, 3) := by decide +kernel
theorem d_jdk_42m92_15 : decode jdk_42_method_92_code 15 = .ok (.iload_n 2, 1) := by decide +kernel
theorem d_jdk_42m92_16 : decode jdk_42_method_92_code 16 = .ok (.iload_n 3, 1) := by decide +kernel
theorem d_jdk_42m92_17 : decode jdk_42_method_92_code 17 = .ok (.if_icmp .ne 5, 3) := by decide +kernel
theorem d_jdk_42m92_22 : decode jdk_42_method_92_code 22 = .ok (.iload_n 2, 1) := by decide +kernel
theorem d_jdk_42m92_23 : decode jdk_42_method_92_code 23 = .ok (.iload_n 1, 1) := by decide +kernel
theorem d_jdk_42m92_24 : decode jdk_42_method_92_code 24 = .ok (.isub, 1) := by decide +kernel
theorem d_jdk_42m92_25 : decode jdk_42_method_92_code 25 = .ok (.istore 4, 2) := by decide +kernel
theorem d_jdk_42m92_27 : decode jdk_42_method_92_code 27 = .ok (.aload_n 0, 1) := by decide +kernel
theorem d_jdk_42m92_28 : decode jdk_42_method_92_code 28 = .ok (.invokevirtual 492, 3) := by decide +kernel
theorem d_jdk_42m92_31 : decode jdk_42_method_92_code 31 = .ok (.ifCond .eq 16, 3) := by decide +kernel
theorem d_jdk_42m92_34 : decode jdk_42_method_92_code 34 = .ok (.aload_n 0, 1) := by decide +kernel
theorem d_jdk_42m92_35 : decode jdk_42_method_92_code 35 = .ok (.getfield 9, 3) := by decide +kernel
theorem d_jdk_42m92_38 : decode jdk_42_method_92_code 38 = .ok (.iload_n 1, 1) := by decide +kernel
theorem d_jdk_42m92_39 : decode jdk_42_method_92_code 39 = .ok (.iload 4, 2) := by decide +kernel
theorem d_jdk_42m92_41 : decode jdk_42_method_92_code 41 = .ok (.invokestatic 685, 3) := by decide +kernel
theorem wd105 {a0 : Array Value} {Z : State} (hw : HW a0 Z) : ((Jvm.Cond.code ({ cls := "java/lang/StringLatin1", name := "newString", desc := "([BII)Ljava/lang/String;" } : Jvm.MethodName) jdk_43_method_47_code (3 : Nat) (Option.some (Jvm.ClassFile.FieldType.object "java/lang/String"))) : Jvm.Cond).before a0 Z = true := hw _ (List.mem_of_getElem? (i := 105) rfl)
theorem pd11 : parseMethodDescriptor "([BII)Ljava/lang/String;" = some ⟨[(.array .byte), .int, .int], some (.object "java/lang/String")⟩ := by decide +kernel
theorem wd103 {a0 : Array Value} {Z : State} (hw : HW a0 Z) : ((Jvm.Cond.methodLink "java/lang/String" (685 : Nat) ({ cls := "java/lang/StringLatin1", name := "newString", desc := "([BII)Ljava/lang/String;" } : Jvm.MethodName)) : Jvm.Cond).before a0 Z = true := hw _ (List.mem_of_getElem? (i := 103) rfl)
theorem wd104 {a0 : Array Value} {Z : State} (hw : HW a0 Z) : ((Jvm.Cond.static ({ cls := "java/lang/StringLatin1", name := "newString", desc := "([BII)Ljava/lang/String;" } : Jvm.MethodName)) : Jvm.Cond).before a0 Z = true := hw _ (List.mem_of_getElem? (i := 104) rfl)
theorem d_jdk_42m92_44 : decode jdk_42_method_92_code 44 = .ok (.goto 13, 3) := by decide +kernel
theorem d_jdk_42m92_57 : decode jdk_42_method_92_code 57 = .ok (.areturn, 1) := by decide +kernel
def Q_subs (Z : State) (zC : Int32) (vF : Value) (aI : Addr) (aR : Addr) (a1 : Addr) (t : Addr) (kb : ClassId) (us : List Value) (pe : Nat) (h0 : Heap) (v : Option Value) (h : Heap) (L : List Loc) : Prop := ∃ (r : Addr), ∃ (ct : Addr), ∃ (kc : ClassId), v = some (.ref r) ∧ Fr Z.heap.size L ∧ Keep h0 h [] ∧ Exa Z h r sT0 ∧ Fld Z h r sT0 "coder" "B" (iv 0) ∧ Fld Z h r sT0 "value" "[B" (.ref ct) ∧ Arv Z h ct kc .byte (Int32.ofNat pe) (sub us 0 pe (.int 0)) (.int 0)
theorem rm_subs (l : Launch) (Z : State) (a0 : Array Value) (hw : HW a0 Z) (zC : Int32) (SC : tSC Z zC) (PC : ¬ zC = (0 : Int32)) (vF : Value) (rF : vF = .null ∨ ∃ a, vF = .ref a) (SF : tSF Z vF) (aI : Addr) (SI : tSI Z aI) (aR : Addr) (SR : tSR Z aR) (a1 : Addr) (t : Addr) (kb : ClassId) (us : List Value) (pe : Nat) (h0 : Heap) (O0 : Old Z Z.heap.size h0) (Pe : Exa Z h0 a1 sT0) (Pc : Fld Z h0 a1 sT0 "coder" "B" (iv 0)) (Pv : Fld Z h0 a1 sT0 "value" "[B" (.ref t)) (Pa : Arv Z h0 t kb .byte (5 : Int32) us (.int 0)) (Pl : (us.length = 5)) (H1 : (0 < pe)) (He : (pe < 5)) :
    Con l Z (⟨sT0, "substring", "(II)Ljava/lang/String;"⟩ : MethodName) jdk_42_method_92_code 5 (some (.object sT0)) ({ frames := 4, cells := 2, slots := 9, locals := 77 } : Room) #[(.ref a1), (iv 0), (.int (Int32.ofNat pe))] h0 (Q_subs Z zC vF aI aR a1 t kb us pe h0) := by
  refine Con.intro (plainFor_of_name pn3) ?_
  intro p e s m below meth c T0 X0 hx hby hml hown0 hnm hret hlk hZ0 e0
  have N0 := Fr.nil Z.heap.size
  refine castGo (g' := mkF m 0 #[.val (.ref a1), .val (iv 0), .val (.int (Int32.ofNat pe)), .unset, .unset] []) (by first | rfl | (simp [entryFrame, mkF, argsToLocals, Value.category]; done)) ?_
  show Go _ _ _ _ (T0.setTop (mkF m 0 #[.val (.ref a1), .val (iv 0), .val (.int (Int32.ofNat pe)), .unset, .unset] []))
  refine aL X0 hx (hb hby d_jdk_42m92_0) (q := 1) rfl rfl rfl ?_
  refine g_vi X0 hx hZ0 hown0 (wd66 hw) (wd67 hw) (notFace_of_selects (args := #[]) (mvT hZ0 (wd69 hw))) (wd69 hw) (wd68 hw) (by decide) Pe e0 (Con.back (W := 0) (rm_slen l Z a0 hw zC SC PC vF rF SF aI SI aR SR a1 t kb us (5 : Int32) h0 O0 Pe Pc Pv Pa) hZ0 (wd70 hw) (wd20 hw) (by decide) (by decide)) (by rw [hml]; rfl) (lenOf pd5 rfl) rfl (Nat.le_of_eq rfl) (hb hby d_jdk_42m92_1) (q := 4) rfl (by decide) (by decide) ?_
  intro v139 T139 L139 X139 Q139
  obtain ⟨rfl, Nq139, e139⟩ := Q139
  have N139 := Fr.app N0 Nq139
  show Go _ _ _ _ (T139.setTop (mkF m 4 #[.val (.ref a1), .val (iv 0), .val (.int (Int32.ofNat pe)), .unset, .unset] [(iv 5)]))
  refine sI X139 hx (hb hby d_jdk_42m92_4) (q := 5) rfl (Ls' := #[.val (.ref a1), .val (iv 0), .val (.int (Int32.ofNat pe)), .val (iv 5), .unset]) rfl ?_
  refine iL X139 hx (hb hby d_jdk_42m92_5) (q := 6) rfl rfl ?_
  refine iL X139 hx (hb hby d_jdk_42m92_6) (q := 7) rfl rfl ?_
  refine iL X139 hx (hb hby d_jdk_42m92_7) (q := 8) rfl rfl ?_
  refine g_st X139 hx hZ0 hown0 (wd95 hw) (wd96 hw) (wd20 hw) (wd97 hw) (by decide) e139 (Con.back (W := 0) (rm_cbb l Z a0 hw zC SC PC vF rF SF aI SI aR SR pe h0 O0 He) hZ0 (wd97 hw) (wd20 hw) (by decide) (by decide)) (by rw [hml]; rfl) (lenOf pd10 rfl) rfl (Nat.le_of_eq rfl) (hb hby d_jdk_42m92_8) (q := 11) rfl (by decide) (by decide) ?_
  intro v140 T140 L140 X140 Q140
  obtain ⟨rfl, Nq140, e140⟩ := Q140
  have N140 := Fr.app N139 Nq140
  show Go _ _ _ _ (T140.setTop (mkF m 11 #[.val (.ref a1), .val (iv 0), .val (.int (Int32.ofNat pe)), .val (iv 5), .unset] []))
  refine iL X140 hx (hb hby d_jdk_42m92_11) (q := 12) rfl rfl ?_
  refine ifN X140 hx (hb hby d_jdk_42m92_12) (q := 15) rfl (by decide) ?_
  refine iL X140 hx (hb hby d_jdk_42m92_15) (q := 16) rfl rfl ?_
  refine iL X140 hx (hb hby d_jdk_42m92_16) (q := 17) rfl rfl ?_
  refine icY X140 hx (hb hby d_jdk_42m92_17) (q := 22) (by decide) (by decide) (feq (on_ne (n := 5) (show pe < 5 from by omega) (by decide))).2 ?_
  refine iL X140 hx (hb hby d_jdk_42m92_22) (q := 23) rfl rfl ?_
  refine iL X140 hx (hb hby d_jdk_42m92_23) (q := 24) rfl rfl ?_
  refine g_isub X140 hx (hb hby d_jdk_42m92_24) (q := 25) rfl (z := (Int32.ofNat pe)) (sub_zero32 _) ?_
  refine sIw X140 hx (hb hby d_jdk_42m92_25) (q := 27) rfl (Ls' := #[.val (.ref a1), .val (iv 0), .val (.int (Int32.ofNat pe)), .val (iv 5), .val (.int (Int32.ofNat pe))]) rfl ?_
  refine aL X140 hx (hb hby d_jdk_42m92_27) (q := 28) rfl rfl rfl ?_
  refine g_vi X140 hx hZ0 hown0 (wd61 hw) (wd62 hw) (notFace_of_selects (args := #[]) (mvT hZ0 (wd64 hw))) (wd64 hw) (wd63 hw) (by decide) Pe e140 (Con.back (W := 0) (rm_isl0 l Z a0 hw zC SC PC vF rF SF aI SI aR SR a1 h0 O0 Pc) hZ0 (wd65 hw) (wd20 hw) (by decide) (by decide)) (by rw [hml]; rfl) (lenOf pd4 rfl) rfl (Nat.le_of_eq rfl) (hb hby d_jdk_42m92_28) (q := 31) rfl (by decide) (by decide) ?_
  intro v141 T141 L141 X141 Q141
  obtain ⟨rfl, Nq141, e141⟩ := Q141
  have N141 := Fr.app N140 Nq141
  show Go _ _ _ _ (T141.setTop (mkF m 31 #[.val (.ref a1), .val (iv 0), .val (.int (Int32.ofNat pe)), .val (iv 5), .val (.int (Int32.ofNat pe))] [(iv 1)]))
  refine ifN X141 hx (hb hby d_jdk_42m92_31) (q := 34) rfl (by decide) ?_
  refine aL X141 hx (hb hby d_jdk_42m92_34) (q := 35) rfl rfl rfl ?_
  refine g_getF X141 hx hZ0 hown0 (host := "") (Or.inl (wd45 hw)) Via.refl Pv e141 (hb hby d_jdk_42m92_35) (q := 38) rfl ?_
  intro T142 X142 e142
  refine iL X142 hx (hb hby d_jdk_42m92_38) (q := 39) rfl rfl ?_
  refine iLw X142 hx (hb hby d_jdk_42m92_39) (q := 41) rfl rfl ?_
  refine g_st X142 hx hZ0 hown0 (wd103 hw) (wd104 hw) (wd78 hw) (wd105 hw) (by decide) e142 (Con.back (W := 0) (rm_nstr l Z a0 hw zC SC PC vF rF SF aI SI aR SR t kb us 5 0 pe h0 O0 Pa Pl (show 5 ≤ 5 from by omega) (show 0 + pe ≤ 5 from by omega) H1 (show ¬ (0 = 0 ∧ pe = 5) from by omega)) hZ0 (wd105 hw) (wd78 hw) (by decide) (by decide)) (by rw [hml]; rfl) (lenOf pd11 rfl) rfl (Nat.le_of_eq rfl) (hb hby d_jdk_42m92_41) (q := 44) rfl (by decide) (by decide) ?_
  intro v143 T143 L143 X143 Q143
  obtain ⟨r_143, ct_143, kc_143, rfl, Nq143, K143q, q143_0, q143_1, q143_2, q143_3⟩ := Q143
  have N143 := Fr.app N141 Nq143
  show Go _ _ _ _ (T143.setTop (mkF m 44 #[.val (.ref a1), .val (iv 0), .val (.int (Int32.ofNat pe)), .val (iv 5), .val (.int (Int32.ofNat pe))] [(.ref r_143)]))
  refine g_goto X143 hx (hb hby d_jdk_42m92_44) (q := 57) (by decide) (by decide) ?_
  have K144 : Keep h0 T143.heap [] := (Keep.refl h0 []).trans K143q all0
  refine endP X143 hlk (fun h => by rw [hret] at h; cases h) (lastA X143 hx hret rfl rfl rfl (hb hby d_jdk_42m92_57)) ?_ (by decide) (by decide)
  exact ⟨r_143, ct_143, kc_143, rfl, N143, K144, q143_0, q143_1, q143_2, q143_3⟩
def Q_subs0 (Z : State) (zC : Int32) (vF : Value) (aI : Addr) (aR : Addr) (a1 : Addr) (t : Addr) (kb : ClassId) (us : List Value) (h0 : Heap) (v : Option Value) (h : Heap) (L : List Loc) : Prop := ∃ (r : Addr), ∃ (ct : Addr), ∃ (kc : ClassId), v = some (.ref r) ∧ Fr Z.heap.size L ∧ Keep h0 h [] ∧ Exa Z h r sT0 ∧ Fld Z h r sT0 "coder" "B" (iv 0) ∧ Fld Z h r sT0 "value" "[B" (.ref ct) ∧ Arv Z h ct kc .byte (0 : Int32) [] (.int 0)
theorem rm_subs0 (l : Launch) (Z : State) (a0 : Array Value) (hw : HW a0 Z) (zC : Int32) (SC : tSC Z zC) (PC : ¬ zC = (0 : Int32)) (vF : Value) (rF : vF = .null ∨ ∃ a, vF = .ref a) (SF : tSF Z vF) (aI : Addr) (SI : tSI Z aI) (aR : Addr) (SR : tSR Z aR) (a1 : Addr) (t : Addr) (kb : ClassId) (us : List Value) (h0 : Heap) (O0 : Old Z Z.heap.size h0) (Pe : Exa Z h0 a1 sT0) (Pc : Fld Z h0 a1 sT0 "coder" "B" (iv 0)) (Pv : Fld Z h0 a1 sT0 "value" "[B" (.ref t)) (Pa : Arv Z h0 t kb .byte (5 : Int32) us (.int 0)) (Pl : (us.length = 5)) :
    ConS l Z EL (⟨sT0, "substring", "(II)Ljava/lang/String;"⟩ : MethodName) jdk_42_method_92_code 5 (some (.object sT0)) ({ frames := 2, cells := 2, slots := 4, locals := 29 } : Room) #[(.ref a1), (iv 0), (iv 0)] h0 [] (Q_subs0 Z zC vF aI aR a1 t kb us h0) := by
  refine ConS.intro (plainFor_of_name pn3) ?_
  intro p e s m below meth c T0 v0 X0 hx hby hml hown0 hnm hret hlk hZ0 e0 hS0 C0 hsl0
  have N0 := Fr.nil Z.heap.size
  refine castGo (g' := mkF m 0 #[.val (.ref a1), .val (iv 0), .val (iv 0), .unset, .unset] []) (by first | rfl | (simp [entryFrame, mkF, argsToLocals, Value.category]; done)) ?_
  show Go _ _ _ _ (T0.setTop (mkF m 0 #[.val (.ref a1), .val (iv 0), .val (iv 0), .unset, .unset] []))
  refine aL X0 hx (hb hby d_jdk_42m92_0) (q := 1) rfl rfl rfl ?_
  refine g_vi X0 hx hZ0 hown0 (wd66 hw) (wd67 hw) (notFace_of_selects (args := #[]) (mvT hZ0 (wd69 hw))) (wd69 hw) (wd68 hw) (by decide) Pe e0 (Con.back (W := 0) (rm_slen l Z a0 hw zC SC PC vF rF SF aI SI aR SR a1 t kb us (5 : Int32) h0 O0 Pe Pc Pv Pa) hZ0 (wd70 hw) (wd20 hw) (by decide) (by decide)) (by rw [hml]; rfl) (lenOf pd5 rfl) rfl (Nat.le_of_eq rfl) (hb hby d_jdk_42m92_1) (q := 4) rfl (by decide) (by decide) ?_
  intro v145 T145 L145 X145 Q145
  obtain ⟨rfl, Nq145, e145⟩ := Q145
  have N145 := Fr.app N0 Nq145
  show Go _ _ _ _ (T145.setTop (mkF m 4 #[.val (.ref a1), .val (iv 0), .val (iv 0), .unset, .unset] [(iv 5)]))
  refine sI X145 hx (hb hby d_jdk_42m92_4) (q := 5) rfl (Ls' := #[.val (.ref a1), .val (iv 0), .val (iv 0), .val (iv 5), .unset]) rfl ?_
  refine iL X145 hx (hb hby d_jdk_42m92_5) (q := 6) rfl rfl ?_
  refine iL X145 hx (hb hby d_jdk_42m92_6) (q := 7) rfl rfl ?_
  refine iL X145 hx (hb hby d_jdk_42m92_7) (q := 8) rfl rfl ?_
  refine g_st X145 hx hZ0 hown0 (wd95 hw) (wd96 hw) (wd20 hw) (wd97 hw) (by decide) e145 (Con.back (W := 0) (rm_cbb l Z a0 hw zC SC PC vF rF SF aI SI aR SR 0 h0 O0 (show 0 < 5 from by omega)) hZ0 (wd97 hw) (wd20 hw) (by decide) (by decide)) (by rw [hml]; rfl) (lenOf pd10 rfl) rfl (Nat.le_of_eq rfl) (hb hby d_jdk_42m92_8) (q := 11) rfl (by decide) (by decide) ?_
  intro v146 T146 L146 X146 Q146
  obtain ⟨rfl, Nq146, e146⟩ := Q146
  have N146 := Fr.app N145 Nq146
  show Go _ _ _ _ (T146.setTop (mkF m 11 #[.val (.ref a1), .val (iv 0), .val (iv 0), .val (iv 5), .unset] []))
  refine iL X146 hx (hb hby d_jdk_42m92_11) (q := 12) rfl rfl ?_
  refine ifN X146 hx (hb hby d_jdk_42m92_12) (q := 15) rfl (by decide) ?_
  refine iL X146 hx (hb hby d_jdk_42m92_15) (q := 16) rfl rfl ?_
  refine iL X146 hx (hb hby d_jdk_42m92_16) (q := 17) rfl rfl ?_
  refine icY X146 hx (hb hby d_jdk_42m92_17) (q := 22) (by decide) (by decide) (by decide) ?_
  refine iL X146 hx (hb hby d_jdk_42m92_22) (q := 23) rfl rfl ?_
  refine iL X146 hx (hb hby d_jdk_42m92_23) (q := 24) rfl rfl ?_
  refine g_isub X146 hx (hb hby d_jdk_42m92_24) (q := 25) rfl (z := (0 : Int32)) (by decide) ?_
  refine sIw X146 hx (hb hby d_jdk_42m92_25) (q := 27) rfl (Ls' := #[.val (.ref a1), .val (iv 0), .val (iv 0), .val (iv 5), .val (iv 0)]) rfl ?_
  refine aL X146 hx (hb hby d_jdk_42m92_27) (q := 28) rfl rfl rfl ?_
  refine g_vi X146 hx hZ0 hown0 (wd61 hw) (wd62 hw) (notFace_of_selects (args := #[]) (mvT hZ0 (wd64 hw))) (wd64 hw) (wd63 hw) (by decide) Pe e146 (Con.back (W := 0) (rm_isl0 l Z a0 hw zC SC PC vF rF SF aI SI aR SR a1 h0 O0 Pc) hZ0 (wd65 hw) (wd20 hw) (by decide) (by decide)) (by rw [hml]; rfl) (lenOf pd4 rfl) rfl (Nat.le_of_eq rfl) (hb hby d_jdk_42m92_28) (q := 31) rfl (by decide) (by decide) ?_
  intro v147 T147 L147 X147 Q147
  obtain ⟨rfl, Nq147, e147⟩ := Q147
  have N147 := Fr.app N146 Nq147
  show Go _ _ _ _ (T147.setTop (mkF m 31 #[.val (.ref a1), .val (iv 0), .val (iv 0), .val (iv 5), .val (iv 0)] [(iv 1)]))
  refine ifN X147 hx (hb hby d_jdk_42m92_31) (q := 34) rfl (by decide) ?_
  refine aL X147 hx (hb hby d_jdk_42m92_34) (q := 35) rfl rfl rfl ?_
  refine g_getF X147 hx hZ0 hown0 (host := "") (Or.inl (wd45 hw)) Via.refl Pv e147 (hb hby d_jdk_42m92_35) (q := 38) rfl ?_
  intro T148 X148 e148
  refine iL X148 hx (hb hby d_jdk_42m92_38) (q := 39) rfl rfl ?_
  refine iLw X148 hx (hb hby d_jdk_42m92_39) (q := 41) rfl rfl ?_
  refine g_stS X148 hx hZ0 hown0 hS0 (Nat.zero_le _) (wd103 hw) (wd104 hw) (wd78 hw) (wd105 hw) (by decide) e148 (ConS.back (W := 0) (rm_nstr0 l Z a0 hw zC SC PC vF rF SF aI SI aR SR t (0 : Int32) h0 O0 ) hZ0 (wd105 hw) (wd78 hw) (by decide) (by decide) (own_EW hw) C0.1 sf0 all0) (by rw [hml]; rfl) (lenOf pd11 rfl) rfl (Nat.le_of_eq rfl) (hb hby d_jdk_42m92_41) (q := 44) rfl (by decide) (by decide) ?_
  rintro v149 T149 L149 ⟨X149, hS149, hZ149, hown149, R149⟩ Q149
  obtain ⟨r_149, ct_149, kc_149, rfl, Nq149, K149q, q149_0, q149_1, q149_2, q149_3⟩ := Q149
  have N149 := Fr.app N147 Nq149
  show Go _ _ _ _ (T149.setTop (mkF m 44 #[.val (.ref a1), .val (iv 0), .val (iv 0), .val (iv 5), .val (iv 0)] [(.ref r_149)]))
  refine g_goto X149 hx (hb hby d_jdk_42m92_44) (q := 57) (by decide) (by decide) ?_
  have K150 : Keep h0 T149.heap [] := (Keep.refl h0 []).trans K149q all0
  have f151 := C0.trans R149
  refine endC X149 hlk hS149 (Nat.le_trans (Nat.le_refl _) (Nat.le_refl _)) hZ149 (own_EW hw) f151 (fun h => by rw [hret] at h; cases h) (lastA X149 hx hret rfl rfl rfl (hb hby d_jdk_42m92_57)) ?_ (by decide) (by decide)
  exact ⟨r_149, ct_149, kc_149, rfl, N149, K150, q149_0, q149_1, q149_2, q149_3⟩
theorem d_jdk_3003m5_0 : decode jdk_3003_method_5_code 0 = .ok (.aload_n 0, 1) := by decide +kernel
theorem d_jdk_3003m5_1 : decode jdk_3003_method_5_code 1 = .ok (.getfield 19, 3) := by decide +kernel
theorem wd188 {a0 : Array Value} {Z : State} (hw : HW a0 Z) : ((Jvm.Cond.fieldLink "sun/util/locale/BaseLocale" (19 : Nat) "sun/util/locale/BaseLocale" "language" "Ljava/lang/String;") : Jvm.Cond).before a0 Z = true := hw _ (List.mem_of_getElem? (i := 188) rfl)
theorem d_jdk_3003m5_4 : decode jdk_3003_method_5_code 4 = .ok (.areturn, 1) := by decide +kernel
def Q_blg (Z : State) (zC : Int32) (vF : Value) (aI : Addr) (aR : Addr) (a1 : Addr) (a2 : Addr) (h0 : Heap) (v : Option Value) (h : Heap) (L : List Loc) : Prop := v = some (.ref a2) ∧ Fr Z.heap.size L ∧ h = h0
theorem pn8 : plainName "sun/util/locale/BaseLocale" = true := by first | (simp [plainName, overriddenIn]; done) | decide +kernel
theorem rm_blg (l : Launch) (Z : State) (a0 : Array Value) (hw : HW a0 Z) (zC : Int32) (SC : tSC Z zC) (PC : ¬ zC = (0 : Int32)) (vF : Value) (rF : vF = .null ∨ ∃ a, vF = .ref a) (SF : tSF Z vF) (aI : Addr) (SI : tSI Z aI) (aR : Addr) (SR : tSR Z aR) (a1 : Addr) (a2 : Addr) (h0 : Heap) (O0 : Old Z Z.heap.size h0) (P1 : Fld Z h0 a1 "sun/util/locale/BaseLocale" "language" "Ljava/lang/String;" (.ref a2)) :
    Con l Z (⟨"sun/util/locale/BaseLocale", "getLanguage", "()Ljava/lang/String;"⟩ : MethodName) jdk_3003_method_5_code 1 (some (.object sT0)) ({ frames := 0, cells := 0, slots := 0, locals := 0 } : Room) #[(.ref a1)] h0 (Q_blg Z zC vF aI aR a1 a2 h0) := by
  refine Con.intro (plainFor_of_name pn8) ?_
  intro p e s m below meth c T0 X0 hx hby hml hown0 hnm hret hlk hZ0 e0
  have N0 := Fr.nil Z.heap.size
  refine castGo (g' := mkF m 0 #[.val (.ref a1)] []) (by first | rfl | (simp [entryFrame, mkF, argsToLocals, Value.category]; done)) ?_
  show Go _ _ _ _ (T0.setTop (mkF m 0 #[.val (.ref a1)] []))
  refine aL X0 hx (hb hby d_jdk_3003m5_0) (q := 1) rfl rfl rfl ?_
  refine g_getF X0 hx hZ0 hown0 (host := "") (Or.inl (wd188 hw)) Via.refl P1 e0 (hb hby d_jdk_3003m5_1) (q := 4) rfl ?_
  intro T152 X152 e152
  refine endP X152 hlk (fun h => by rw [hret] at h; cases h) (lastA X152 hx hret rfl rfl rfl (hb hby d_jdk_3003m5_4)) ?_ (by decide) (by decide)
  rw [e152]
  exact ⟨rfl, N0, rfl⟩
theorem d_jdk_2628m27_0 : decode jdk_2628_method_27_code 0 = .ok (.aload_n 0, 1) := by decide +kernel
theorem d_jdk_2628m27_1 : decode jdk_2628_method_27_code 1 = .ok (.getfield 28, 3) := by decide +kernel
theorem wd180 {a0 : Array Value} {Z : State} (hw : HW a0 Z) : ((Jvm.Cond.fieldLink "java/util/Locale" (28 : Nat) "java/util/Locale" "baseLocale" "Lsun/util/locale/BaseLocale;") : Jvm.Cond).before a0 Z = true := hw _ (List.mem_of_getElem? (i := 180) rfl)
theorem d_jdk_2628m27_4 : decode jdk_2628_method_27_code 4 = .ok (.invokevirtual 293, 3) := by decide +kernel
theorem wd187 {a0 : Array Value} {Z : State} (hw : HW a0 Z) : ((Jvm.Cond.code ({ cls := "sun/util/locale/BaseLocale", name := "getLanguage", desc := "()Ljava/lang/String;" } : Jvm.MethodName) jdk_3003_method_5_code (1 : Nat) (Option.some (Jvm.ClassFile.FieldType.object "java/lang/String"))) : Jvm.Cond).before a0 Z = true := hw _ (List.mem_of_getElem? (i := 187) rfl)
theorem wd186 {a0 : Array Value} {Z : State} (hw : HW a0 Z) : ((Jvm.Cond.initialized "sun/util/locale/BaseLocale") : Jvm.Cond).before a0 Z = true := hw _ (List.mem_of_getElem? (i := 186) rfl)
theorem pd12 : parseMethodDescriptor "()Ljava/lang/String;" = some ⟨[], some (.object "java/lang/String")⟩ := by decide +kernel
theorem wd185 {a0 : Array Value} {Z : State} (hw : HW a0 Z) : ((Jvm.Cond.selects "sun/util/locale/BaseLocale" ({ cls := "sun/util/locale/BaseLocale", name := "getLanguage", desc := "()Ljava/lang/String;" } : Jvm.MethodName) ({ cls := "sun/util/locale/BaseLocale", name := "getLanguage", desc := "()Ljava/lang/String;" } : Jvm.MethodName)) : Jvm.Cond).before a0 Z = true := hw _ (List.mem_of_getElem? (i := 185) rfl)
theorem wd182 {a0 : Array Value} {Z : State} (hw : HW a0 Z) : ((Jvm.Cond.methodLink "java/util/Locale" (293 : Nat) ({ cls := "sun/util/locale/BaseLocale", name := "getLanguage", desc := "()Ljava/lang/String;" } : Jvm.MethodName)) : Jvm.Cond).before a0 Z = true := hw _ (List.mem_of_getElem? (i := 182) rfl)
theorem wd183 {a0 : Array Value} {Z : State} (hw : HW a0 Z) : ((Jvm.Cond.declares ({ cls := "sun/util/locale/BaseLocale", name := "getLanguage", desc := "()Ljava/lang/String;" } : Jvm.MethodName)) : Jvm.Cond).before a0 Z = true := hw _ (List.mem_of_getElem? (i := 183) rfl)
theorem wd184 {a0 : Array Value} {Z : State} (hw : HW a0 Z) : ((Jvm.Cond.instanceMethod ({ cls := "sun/util/locale/BaseLocale", name := "getLanguage", desc := "()Ljava/lang/String;" } : Jvm.MethodName)) : Jvm.Cond).before a0 Z = true := hw _ (List.mem_of_getElem? (i := 184) rfl)
theorem d_jdk_2628m27_7 : decode jdk_2628_method_27_code 7 = .ok (.areturn, 1) := by decide +kernel
def Q_lcg (Z : State) (zC : Int32) (vF : Value) (aI : Addr) (aR : Addr) (aB : Addr) (aG : Addr) (h0 : Heap) (v : Option Value) (h : Heap) (L : List Loc) : Prop := v = some (.ref aG) ∧ Fr Z.heap.size L ∧ h = h0
theorem pn9 : plainName "java/util/Locale" = true := by first | (simp [plainName, overriddenIn]; done) | decide +kernel
theorem rm_lcg (l : Launch) (Z : State) (a0 : Array Value) (hw : HW a0 Z) (zC : Int32) (SC : tSC Z zC) (PC : ¬ zC = (0 : Int32)) (vF : Value) (rF : vF = .null ∨ ∃ a, vF = .ref a) (SF : tSF Z vF) (aI : Addr) (SI : tSI Z aI) (aR : Addr) (SR : tSR Z aR) (aB : Addr) (aG : Addr) (h0 : Heap) (O0 : Old Z Z.heap.size h0) (L1 : Exa Z h0 aR "java/util/Locale") (L2 : Fld Z h0 aR "java/util/Locale" "baseLocale" "Lsun/util/locale/BaseLocale;" (.ref aB)) (L3 : Exa Z h0 aB "sun/util/locale/BaseLocale") (L4 : Fld Z h0 aB "sun/util/locale/BaseLocale" "language" "Ljava/lang/String;" (.ref aG)) :
    Con l Z (⟨"java/util/Locale", "getLanguage", "()Ljava/lang/String;"⟩ : MethodName) jdk_2628_method_27_code 1 (some (.object sT0)) ({ frames := 1, cells := 0, slots := 0, locals := 12 } : Room) #[(.ref aR)] h0 (Q_lcg Z zC vF aI aR aB aG h0) := by
  refine Con.intro (plainFor_of_name pn9) ?_
  intro p e s m below meth c T0 X0 hx hby hml hown0 hnm hret hlk hZ0 e0
  have N0 := Fr.nil Z.heap.size
  refine castGo (g' := mkF m 0 #[.val (.ref aR)] []) (by first | rfl | (simp [entryFrame, mkF, argsToLocals, Value.category]; done)) ?_
  show Go _ _ _ _ (T0.setTop (mkF m 0 #[.val (.ref aR)] []))
  refine aL X0 hx (hb hby d_jdk_2628m27_0) (q := 1) rfl rfl rfl ?_
  refine g_getF X0 hx hZ0 hown0 (host := "") (Or.inl (wd180 hw)) Via.refl L2 e0 (hb hby d_jdk_2628m27_1) (q := 4) rfl ?_
  intro T153 X153 e153
  refine g_vi X153 hx hZ0 hown0 (wd182 hw) (wd183 hw) (notFace_of_selects (args := #[]) (mvT hZ0 (wd185 hw))) (wd185 hw) (wd184 hw) (by decide) L3 e153 (Con.back (W := 0) (rm_blg l Z a0 hw zC SC PC vF rF SF aI SI aR SR aB aG h0 O0 L4) hZ0 (wd187 hw) (wd186 hw) (by decide) (by decide)) (by rw [hml]; rfl) (lenOf pd12 rfl) rfl (Nat.le_of_eq rfl) (hb hby d_jdk_2628m27_4) (q := 7) rfl (by decide) (by decide) ?_
  intro v154 T154 L154 X154 Q154
  obtain ⟨rfl, Nq154, e154⟩ := Q154
  have N154 := Fr.app N0 Nq154
  show Go _ _ _ _ (T154.setTop (mkF m 7 #[.val (.ref aR)] [(.ref aG)]))
  refine endP X154 hlk (fun h => by rw [hret] at h; cases h) (lastA X154 hx hret rfl rfl rfl (hb hby d_jdk_2628m27_7)) ?_ (by decide) (by decide)
  rw [e154]
  exact ⟨rfl, N154, rfl⟩
def lo8W (x : Int32) : Value := .int (StrChars.lo8 (low x))
theorem rng_at {cs : List Int32} {n i : Nat} {y : Int32} (Hr : ∀ x ∈ cs, ¬ x < 0 ∧ ¬ (255 : Int32) < x) (Hn : cs.length = n) (h : i < n) (hy : y = cs.getD i 0) : ¬ y < 0 ∧ ¬ (255 : Int32) < y := by
  have h' : i < cs.length := by omega
  subst hy
  apply Hr
  rw [List.getD_eq_getElem?_getD, List.getElem?_eq_getElem h']
  exact List.getElem_mem h'
theorem list_eq {R : List Value} {n : Nat} {cs : List Int32} {f : Int32 → Value} (hl : R.length = n) (Hn : cs.length = n) (q : ∀ j, j < n → R.getD j (.int 0) = f (cs.getD j 0)) : R = cs.map f := by
  apply List.ext_getElem (by simp [hl, Hn])
  intro j h1 h2
  have h3 := q j (by omega)
  rw [← map_getD (f := f) (cs := cs) (n := n) (i := j) (d := .int 0) Hn (by omega), List.getD_eq_getElem?_getD, List.getD_eq_getElem?_getD, List.getElem?_eq_getElem h1, List.getElem?_eq_getElem h2] at h3
  exact h3
theorem map_same {cs : List Int32} {n : Nat} (Hn : cs.length = n) (q : ∀ j, j < n → low (cs.getD j 0) = cs.getD j 0) : cs.map lo8V = cs.map lo8W :=
  list_eq (f := lo8W) (n := n) (by simp [Hn]) Hn fun j hj => by rw [map_getD Hn hj]; unfold lo8V lo8W; rw [q j hj]
theorem ins_at {cs : List Int32} {n i : Nat} (Hn : cs.length = n) (hi : i < n) (q : ∀ j, j < i → low (cs.getD j 0) = cs.getD j 0) : ∀ j, j < i → (ins (List.replicate n (.int 0)) (sub (cs.map lo8V) 0 i (.int 0)) 0 i).getD j (.int 0) = lo8W (cs.getD j 0) := by
  intro j hj
  have h1 : (sub (cs.map lo8V) 0 i (.int 0)).getD j (.int 0) = (cs.map lo8V).getD j (.int 0) := by
    simp [sub, List.getD_eq_getElem?_getD, List.getElem?_map, List.getElem?_range, hj]
  have h2 : (ins (List.replicate n (.int 0)) (sub (cs.map lo8V) 0 i (.int 0)) 0 i).getD j (.int 0) = (sub (cs.map lo8V) 0 i (.int 0)).getD j (.int 0) := by
    rw [ins, List.take_zero, List.nil_append, List.getD_eq_getElem?_getD, List.getElem?_append_left (by rw [sub_len]; exact hj), ← List.getD_eq_getElem?_getD]
  rw [h2, h1, map_getD Hn (by omega)]; unfold lo8V lo8W; rw [q j hj]
theorem set_step {R : List Value} {i n : Nat} {v : Value} {P : Nat → Value} (q : ∀ j, j < i → R.getD j (.int 0) = P j) (hl : R.length = n) (h : i < n) (hv : v = P i) : ∀ j, j < i + 1 → (R.set i v).getD j (.int 0) = P j := by
  intro j hj
  rw [List.getD_eq_getElem?_getD, List.getElem?_set]
  by_cases e : i = j
  · subst e; simp [hl, h, hv]
  · simp only [e, if_false]; rw [← List.getD_eq_getElem?_getD]; exact q j (by omega)
def TRM (cs : List Int32) (n i m : Nat) : Prop := i + m ≤ n ∧ (∀ k, k < i → ¬ (32 : Int32) < cs.getD k 0) ∧ (∀ k, i + m ≤ k → k < n → ¬ (32 : Int32) < cs.getD k 0) ∧ (m = 0 ∧ i = n ∨ 0 < m ∧ (32 : Int32) < cs.getD i 0 ∧ (32 : Int32) < cs.getD (i + m - 1) 0)
def TRD (Z : State) (h : Heap) (cs : List Int32) (n : Nat) (ov : Value) : Prop := (ov = .null ∧ TRM cs n 0 n) ∨ ∃ (r ct : Addr) (kc : ClassId) (i m : Nat), ov = .ref r ∧ TRM cs n i m ∧ Exa Z h r sT0 ∧ Fld Z h r sT0 "coder" "B" (iv 0) ∧ Fld Z h r sT0 "value" "[B" (.ref ct) ∧ Arv Z h ct kc .byte (Int32.ofNat m) ((List.take m (List.drop i cs)).map lo8V) (.int 0)
theorem on_pred {a : Nat} (h : 1 ≤ a) (ha : a < 2147483648) : Int32.ofNat a - 1 = Int32.ofNat (a - 1) := on_sub (b := 1) h ha
theorem on_dec {n i : Nat} (h : i < n) (hn : n < 2147483648) : Int32.ofNat (n - i) + (-1 : Int32) = Int32.ofNat (n - (i + 1)) := by
  rw [← Int32.sub_eq_add_neg, on_pred (by omega) (by omega)]; rfl
theorem on_pos {i : Nat} (h : 0 < i) (hn : i < 2147483648) : (0 : Int32) < Int32.ofNat i := on_lt (i := 0) h hn
theorem td_sub {cs : List Int32} {n i m : Nat} (Hn : cs.length = n) (h : i + m ≤ n) : sub (cs.map lo8V) i m (.int 0) = (List.take m (List.drop i cs)).map lo8V := by
  apply List.ext_getElem (by rw [sub_len]; simp; omega)
  intro j h1 h2
  rw [sub_len] at h1
  simp [sub, List.getD_eq_getElem?_getD, show i + j < cs.length by omega]
theorem td_len {cs : List Int32} {n i m : Nat} (Hn : cs.length = n) (H : TRM cs n i m) : (List.take m (List.drop i cs)).length = m := by
  have := H.1
  simp; omega
theorem td_mem {cs : List Int32} {i m : Nat} {P : Int32 → Prop} (Hr : ∀ x ∈ cs, P x) : ∀ x ∈ List.take m (List.drop i cs), P x := fun x hx => Hr x (List.mem_of_mem_drop (List.mem_of_mem_take hx))
theorem d_jdk_43m36_0 : decode jdk_43_method_36_code 0 = .ok (.aload_n 0, 1) := by decide +kernel
theorem d_jdk_43m36_1 : decode jdk_43_method_36_code 1 = .ok (.arraylength, 1) := by decide +kernel
theorem d_jdk_43m36_2 : decode jdk_43_method_36_code 2 = .ok (.istore_n 1, 1) := by decide +kernel
theorem d_jdk_43m36_3 : decode jdk_43_method_36_code 3 = .ok (.iconst 0, 1) := by decide +kernel
theorem d_jdk_43m36_4 : decode jdk_43_method_36_code 4 = .ok (.istore_n 2, 1) := by decide +kernel
theorem d_jdk_43m36_5 : decode jdk_43_method_36_code 5 = .ok (.iload_n 2, 1) := by decide +kernel
theorem d_jdk_43m36_6 : decode jdk_43_method_36_code 6 = .ok (.iload_n 1, 1) := by decide +kernel
theorem d_jdk_43m36_7 : decode jdk_43_method_36_code 7 = .ok (.if_icmp .ge 21, 3) := by decide +kernel
theorem d_jdk_43m36_28 : decode jdk_43_method_36_code 28 = .ok (.iload_n 2, 1) := by decide +kernel
theorem d_jdk_43m36_29 : decode jdk_43_method_36_code 29 = .ok (.iload_n 1, 1) := by decide +kernel
theorem d_jdk_43m36_30 : decode jdk_43_method_36_code 30 = .ok (.if_icmp .ge 23, 3) := by decide +kernel
theorem d_jdk_43m36_53 : decode jdk_43_method_36_code 53 = .ok (.iload_n 2, 1) := by decide +kernel
theorem d_jdk_43m36_54 : decode jdk_43_method_36_code 54 = .ok (.ifCond .gt 9, 3) := by decide +kernel
theorem d_jdk_43m36_57 : decode jdk_43_method_36_code 57 = .ok (.iload_n 1, 1) := by decide +kernel
theorem d_jdk_43m36_58 : decode jdk_43_method_36_code 58 = .ok (.aload_n 0, 1) := by decide +kernel
theorem d_jdk_43m36_59 : decode jdk_43_method_36_code 59 = .ok (.arraylength, 1) := by decide +kernel
theorem d_jdk_43m36_60 : decode jdk_43_method_36_code 60 = .ok (.if_icmp .ge 14, 3) := by decide +kernel
theorem d_jdk_43m36_74 : decode jdk_43_method_36_code 74 = .ok (.aconst_null, 1) := by decide +kernel
theorem d_jdk_43m36_75 : decode jdk_43_method_36_code 75 = .ok (.areturn, 1) := by decide +kernel
theorem d_jdk_43m36_63 : decode jdk_43_method_36_code 63 = .ok (.aload_n 0, 1) := by decide +kernel
theorem d_jdk_43m36_64 : decode jdk_43_method_36_code 64 = .ok (.iload_n 2, 1) := by decide +kernel
theorem d_jdk_43m36_65 : decode jdk_43_method_36_code 65 = .ok (.iload_n 1, 1) := by decide +kernel
theorem d_jdk_43m36_66 : decode jdk_43_method_36_code 66 = .ok (.iload_n 2, 1) := by decide +kernel
theorem d_jdk_43m36_67 : decode jdk_43_method_36_code 67 = .ok (.isub, 1) := by decide +kernel
theorem d_jdk_43m36_68 : decode jdk_43_method_36_code 68 = .ok (.invokestatic 210, 3) := by decide +kernel
theorem wd150 {a0 : Array Value} {Z : State} (hw : HW a0 Z) : ((Jvm.Cond.methodLink "java/lang/StringLatin1" (210 : Nat) ({ cls := "java/lang/StringLatin1", name := "newString", desc := "([BII)Ljava/lang/String;" } : Jvm.MethodName)) : Jvm.Cond).before a0 Z = true := hw _ (List.mem_of_getElem? (i := 150) rfl)
theorem d_jdk_43m36_71 : decode jdk_43_method_36_code 71 = .ok (.goto 4, 3) := by decide +kernel
theorem d_jdk_43m36_10 : decode jdk_43_method_36_code 10 = .ok (.aload_n 0, 1) := by decide +kernel
theorem d_jdk_43m36_11 : decode jdk_43_method_36_code 11 = .ok (.iload_n 2, 1) := by decide +kernel
theorem d_jdk_43m36_12 : decode jdk_43_method_36_code 12 = .ok (.baload, 1) := by decide +kernel
theorem d_jdk_43m36_13 : decode jdk_43_method_36_code 13 = .ok (.sipush 255, 3) := by decide +kernel
theorem d_jdk_43m36_16 : decode jdk_43_method_36_code 16 = .ok (.iand, 1) := by decide +kernel
theorem d_jdk_43m36_17 : decode jdk_43_method_36_code 17 = .ok (.bipush 32, 2) := by decide +kernel
theorem d_jdk_43m36_19 : decode jdk_43_method_36_code 19 = .ok (.if_icmp .gt 9, 3) := by decide +kernel
theorem d_jdk_43m36_33 : decode jdk_43_method_36_code 33 = .ok (.aload_n 0, 1) := by decide +kernel
theorem d_jdk_43m36_34 : decode jdk_43_method_36_code 34 = .ok (.iload_n 1, 1) := by decide +kernel
theorem d_jdk_43m36_35 : decode jdk_43_method_36_code 35 = .ok (.iconst 1, 1) := by decide +kernel
theorem d_jdk_43m36_36 : decode jdk_43_method_36_code 36 = .ok (.isub, 1) := by decide +kernel
theorem d_jdk_43m36_37 : decode jdk_43_method_36_code 37 = .ok (.baload, 1) := by decide +kernel
theorem d_jdk_43m36_38 : decode jdk_43_method_36_code 38 = .ok (.sipush 255, 3) := by decide +kernel
theorem d_jdk_43m36_41 : decode jdk_43_method_36_code 41 = .ok (.iand, 1) := by decide +kernel
theorem d_jdk_43m36_42 : decode jdk_43_method_36_code 42 = .ok (.bipush 32, 2) := by decide +kernel
theorem d_jdk_43m36_44 : decode jdk_43_method_36_code 44 = .ok (.if_icmp .gt 9, 3) := by decide +kernel
theorem d_jdk_43m36_47 : decode jdk_43_method_36_code 47 = .ok (.iinc 1 (-1), 3) := by decide +kernel
theorem d_jdk_43m36_50 : decode jdk_43_method_36_code 50 = .ok (.goto (-22), 3) := by decide +kernel
theorem d_jdk_43m36_22 : decode jdk_43_method_36_code 22 = .ok (.iinc 2 1, 3) := by decide +kernel
theorem d_jdk_43m36_25 : decode jdk_43_method_36_code 25 = .ok (.goto (-20), 3) := by decide +kernel
def Q_tr (Z : State) (zC : Int32) (vF : Value) (aI : Addr) (aR : Addr) (t : Addr) (kb : ClassId) (cs : List Int32) (n : Nat) (h0 : Heap) (v : Option Value) (h : Heap) (L : List Loc) : Prop := ∃ (ov : Value), v = some ov ∧ Fr Z.heap.size L ∧ Keep h0 h [] ∧ (TRD Z h cs n ov)
theorem rm_tr (l : Launch) (Z : State) (a0 : Array Value) (hw : HW a0 Z) (zC : Int32) (SC : tSC Z zC) (PC : ¬ zC = (0 : Int32)) (vF : Value) (rF : vF = .null ∨ ∃ a, vF = .ref a) (SF : tSF Z vF) (aI : Addr) (SI : tSI Z aI) (aR : Addr) (SR : tSR Z aR) (t : Addr) (kb : ClassId) (cs : List Int32) (n : Nat) (h0 : Heap) (O0 : Old Z Z.heap.size h0) (PB : Arv Z h0 t kb .byte (Int32.ofNat n) (cs.map lo8V) (.int 0)) (Hn : (cs.length = n)) (Hm : (n ≤ 5)) (Hr : (∀ x ∈ cs, ¬ x < 0 ∧ ¬ (255 : Int32) < x)) :
    ConS l Z EL (⟨"java/lang/StringLatin1", "trim", "([B)Ljava/lang/String;"⟩ : MethodName) jdk_43_method_36_code 3 (some (.object sT0)) ({ frames := 4, cells := 2, slots := 9, locals := 77 } : Room) #[(.ref t)] h0 [] (Q_tr Z zC vF aI aR t kb cs n h0) := by
  refine ConS.intro (plainFor_of_name pn2) ?_
  intro p e s m below meth c T0 v0 X0 hx hby hml hown0 hnm hret hlk hZ0 e0 hS0 C0 hsl0
  have N0 := Fr.nil Z.heap.size
  refine castGo (g' := mkF m 0 #[.val (.ref t), .unset, .unset] []) (by first | rfl | (simp [entryFrame, mkF, argsToLocals, Value.category]; done)) ?_
  have hnB : n < 2147483648 := by omega
  show Go _ _ _ _ (T0.setTop (mkF m 0 #[.val (.ref t), .unset, .unset] []))
  refine aL X0 hx (hb hby d_jdk_43m36_0) (q := 1) rfl rfl rfl ?_
  refine g_len X0 hx hZ0 PB e0 (hb hby d_jdk_43m36_1) (q := 2) rfl ?_
  refine sI X0 hx (hb hby d_jdk_43m36_2) (q := 3) rfl (Ls' := #[.val (.ref t), .val (.int (Int32.ofNat n)), .unset]) rfl ?_
  refine cI X0 hx (hb hby d_jdk_43m36_3) (q := 4) rfl (z := (0 : Int32)) rfl ?_
  refine sI X0 hx (hb hby d_jdk_43m36_4) (q := 5) rfl (Ls' := #[.val (.ref t), .val (.int (Int32.ofNat n)), .val (iv 0)]) rfl ?_
  have lp155 : ∀ (k155 i155 : Nat) (T155 : State) (h155 : Heap) (L155 : List Loc), i155 + k155 = n → Stand p l e ({ frames := 4, cells := 2, slots := 9, locals := 77 } : Room) (s.setVm v0) m #[(.ref t)] below meth c T155 L155 0 0 → T155.heap = h155 → Keep h0 h155 [] → Fr Z.heap.size L155 → (∀ j, j < i155 → ¬ (32 : Int32) < cs.getD j 0) → Go p.tables e below (SEnd Z EL s (Q_tr Z zC vF aI aR t kb cs n h0) ({ frames := 4, cells := 2, slots := 9, locals := 77 } : Room).cells ({ frames := 4, cells := 2, slots := 9, locals := 77 } : Room).slots) (T155.setTop (mkF m 5 #[.val (.ref t), .val (.int (Int32.ofNat n)), .val (.int (Int32.ofNat i155))] [])) := by
    intro k155
    induction k155 with
    | zero =>
      intro i155 T155 h155 L155  hk155 X155 e155 K155q N155 qA
      have hi155 : i155 = n := by omega
      have nb155 : i155 < 2147483648 := by omega
      have hz155 : ¬ (Int32.ofNat i155 < Int32.ofNat n) := by rw [hi155]; exact lt_irr
      have hw155 : Int32.ofNat i155 = Int32.ofNat n := by rw [hi155]
      show Go _ _ _ _ (T155.setTop (mkF m 5 #[.val (.ref t), .val (.int (Int32.ofNat n)), .val (.int (Int32.ofNat i155))] []))
      refine iL X155 hx (hb hby d_jdk_43m36_5) (q := 6) rfl rfl ?_
      refine iL X155 hx (hb hby d_jdk_43m36_6) (q := 7) rfl rfl ?_
      refine icY X155 hx (hb hby d_jdk_43m36_7) (q := 28) (by decide) (by decide) (flt hz155).2.1 ?_
      refine iL X155 hx (hb hby d_jdk_43m36_28) (q := 29) rfl rfl ?_
      refine iL X155 hx (hb hby d_jdk_43m36_29) (q := 30) rfl rfl ?_
      refine icY X155 hx (hb hby d_jdk_43m36_30) (q := 53) (by decide) (by decide) (flt hz155).2.1 ?_
      rcases Nat.eq_zero_or_pos i155 with hp | hp
      · have hq0 : ¬ (0 : Int32) < Int32.ofNat i155 := by rw [hp]; exact lt_irr
        show Go _ _ _ _ (T155.setTop (mkF m 53 #[.val (.ref t), .val (.int (Int32.ofNat n)), .val (.int (Int32.ofNat i155))] []))
        refine iL X155 hx (hb hby d_jdk_43m36_53) (q := 54) rfl rfl ?_
        refine ifN X155 hx (hb hby d_jdk_43m36_54) (q := 57) rfl ((if0 _ _).trans (flt hq0).2.2.1) ?_
        refine iL X155 hx (hb hby d_jdk_43m36_57) (q := 58) rfl rfl ?_
        refine aL X155 hx (hb hby d_jdk_43m36_58) (q := 59) rfl rfl rfl ?_
        have f156 := PB.keep K155q nin0
        refine g_len X155 hx hZ0 f156 e155 (hb hby d_jdk_43m36_59) (q := 60) rfl ?_
        refine icY X155 hx (hb hby d_jdk_43m36_60) (q := 74) (by decide) (by decide) (flt lt_irr).2.1 ?_
        refine cN X155 hx (hb hby d_jdk_43m36_74) (q := 75) rfl ?_
        have K157 : Keep h0 h155 [] := (Keep.refl h0 []).trans K155q all0
        have f158 := C0.trans (CHr.keep K155q sf0 C0.1)
        refine endC X155 hlk hS0 (by rw [e155]; exact (Nat.zero_le _)) hZ0 (own_EW hw) (by rw [e155]; exact f158) (fun h => by rw [hret] at h; cases h) (lastA X155 hx hret rfl rfl rfl (hb hby d_jdk_43m36_75)) ?_ (by decide) (by decide)
        rw [e155]
        exact ⟨.null, rfl, N155, K157, (Or.inl ⟨rfl, by omega, fun k q => absurd q (Nat.not_lt_zero _), fun k q1 q2 => absurd q1 (by omega), Or.inl ⟨by omega, by omega⟩⟩)⟩
      · show Go _ _ _ _ (T155.setTop (mkF m 53 #[.val (.ref t), .val (.int (Int32.ofNat n)), .val (.int (Int32.ofNat i155))] []))
        refine iL X155 hx (hb hby d_jdk_43m36_53) (q := 54) rfl rfl ?_
        refine ifY X155 hx (hb hby d_jdk_43m36_54) (q := 63) (by decide) (by decide) ((if0 _ _).trans (tlt (on_pos hp (by omega))).2.2.1) ?_
        refine aL X155 hx (hb hby d_jdk_43m36_63) (q := 64) rfl rfl rfl ?_
        refine iL X155 hx (hb hby d_jdk_43m36_64) (q := 65) rfl rfl ?_
        refine iL X155 hx (hb hby d_jdk_43m36_65) (q := 66) rfl rfl ?_
        refine iL X155 hx (hb hby d_jdk_43m36_66) (q := 67) rfl rfl ?_
        refine g_isub X155 hx (hb hby d_jdk_43m36_67) (q := 68) rfl (z := (Int32.ofNat (n - i155))) (on_sub (show i155 ≤ n from by omega) (show n < 2147483648 from by omega)) ?_
        refine castGo (g' := mkF m 68 #[.val (.ref t), .val (.int (Int32.ofNat n)), .val (.int (Int32.ofNat i155))] [(iv 0), (.int (Int32.ofNat i155)), (.ref t)]) (by rw [(show (0 : Int32) = (Int32.ofNat (n - i155)) from by rw [hi155, Nat.sub_self]; rfl)]) ?_
        have f161 := O0.keep K155q all0
        have f162 := C0.trans (CHr.keep K155q sf0 C0.1)
        refine g_stS X155 hx hZ0 hown0 hS0 (Nat.zero_le _) (wd150 hw) (wd104 hw) (wd78 hw) (wd105 hw) (by decide) e155 (ConS.back (W := 0) (rm_nstr0 l Z a0 hw zC SC PC vF rF SF aI SI aR SR t (Int32.ofNat i155) h155 f161 ) hZ0 (wd105 hw) (wd78 hw) (by decide) (by decide) (own_EW hw) f162.1 sf0 all0) (by rw [hml]; rfl) (lenOf pd11 rfl) rfl (Nat.le_of_eq rfl) (hb hby d_jdk_43m36_68) (q := 71) rfl (by decide) (by decide) ?_
        rintro v160 T160 L160 ⟨X160, hS160, hZ160, hown160, R160⟩ Q160
        obtain ⟨r_160, ct_160, kc_160, rfl, Nq160, K160q, q160_0, q160_1, q160_2, q160_3⟩ := Q160
        have N160 := Fr.app N155 Nq160
        show Go _ _ _ _ (T160.setTop (mkF m 71 #[.val (.ref t), .val (.int (Int32.ofNat n)), .val (.int (Int32.ofNat i155))] [(.ref r_160)]))
        refine g_goto X160 hx (hb hby d_jdk_43m36_71) (q := 75) (by decide) (by decide) ?_
        have K163 : Keep h0 h155 [] := (Keep.refl h0 []).trans K155q all0
        have K164 : Keep h0 T160.heap [] := K163.trans K160q all0
        have f165 := f162.trans R160
        refine endC X160 hlk hS160 (Nat.le_trans (Nat.le_refl _) (Nat.le_refl _)) hZ160 (own_EW hw) f165 (fun h => by rw [hret] at h; cases h) (lastA X160 hx hret rfl rfl rfl (hb hby d_jdk_43m36_75)) ?_ (by decide) (by decide)
        exact ⟨(.ref r_160), rfl, N160, K164, (Or.inr ⟨r_160, ct_160, kc_160, i155, 0, rfl, ⟨by omega, qA, fun k q1 q2 => absurd q1 (by omega), Or.inl ⟨rfl, by omega⟩⟩, q160_0, q160_1, q160_2, q160_3⟩)⟩
    | succ k155 ih =>
      intro i155 T155 h155 L155  hk155 X155 e155 K155q N155 qA
      have hi155 : i155 < n := by omega
      have nb155 : i155 < 2147483648 := by omega
      obtain ⟨y155, hy155⟩ : ∃ y, y = cs.getD i155 0 := ⟨_, rfl⟩
      have g155 : (cs.map lo8V).getD i155 (.int 0) = .int (StrChars.lo8 y155) := by rw [hy155]; exact map_getD Hn hi155
      have r155 := rng_at Hr Hn hi155 hy155
      show Go _ _ _ _ (T155.setTop (mkF m 5 #[.val (.ref t), .val (.int (Int32.ofNat n)), .val (.int (Int32.ofNat i155))] []))
      refine iL X155 hx (hb hby d_jdk_43m36_5) (q := 6) rfl rfl ?_
      refine iL X155 hx (hb hby d_jdk_43m36_6) (q := 7) rfl rfl ?_
      refine icN X155 hx (hb hby d_jdk_43m36_7) (q := 10) rfl (tlt (on_lt hi155 hnB)).2.1 ?_
      refine aL X155 hx (hb hby d_jdk_43m36_10) (q := 11) rfl rfl rfl ?_
      refine iL X155 hx (hb hby d_jdk_43m36_11) (q := 12) rfl rfl ?_
      have f166 := PB.keep K155q nin0
      refine g_ldB X155 hx hZ0 f166 (i := i155) (on_clamp nb155) (on_nn nb155) (on_lt hi155 hnB) (v := (.int (StrChars.lo8 y155))) g155 e155 (hb hby d_jdk_43m36_12) (q := 13) rfl ?_
      refine pI X155 hx (hb hby d_jdk_43m36_13) (q := 16) rfl (z := (255 : Int32)) rfl ?_
      refine g_iand X155 hx (hb hby d_jdk_43m36_16) (q := 17) rfl (z := y155) (back8 r155.1 r155.2) ?_
      refine bI X155 hx (hb hby d_jdk_43m36_17) (q := 19) rfl (z := (32 : Int32)) rfl ?_
      by_cases hc167 : (32 : Int32) < y155
      · refine icY X155 hx (hb hby d_jdk_43m36_19) (q := 28) (by decide) (by decide) (tlt hc167).2.2.1 ?_
        have lp168 : ∀ (k168 i168 : Nat) (T168 : State) (h168 : Heap) (L168 : List Loc), i168 + k168 = (n - i155) → Stand p l e ({ frames := 4, cells := 2, slots := 9, locals := 77 } : Room) (s.setVm v0) m #[(.ref t)] below meth c T168 L168 0 0 → T168.heap = h168 → Keep h155 h168 [] → Fr Z.heap.size L168 → (∀ k, n - i168 ≤ k → k < n → ¬ (32 : Int32) < cs.getD k 0) → Go p.tables e below (SEnd Z EL s (Q_tr Z zC vF aI aR t kb cs n h0) ({ frames := 4, cells := 2, slots := 9, locals := 77 } : Room).cells ({ frames := 4, cells := 2, slots := 9, locals := 77 } : Room).slots) (T168.setTop (mkF m 28 #[.val (.ref t), .val (.int (Int32.ofNat (n - i168))), .val (.int (Int32.ofNat i155))] [])) := by
          intro k168
          induction k168 with
          | zero =>
            intro i168 T168 h168 L168  hk168 X168 e168 K168q N168 qB
            have hi168 : i168 = (n - i155) := by omega
            have nb168 : i168 < 2147483648 := by omega
            exact absurd (by rw [← hy155]; exact hc167) (qB i155 (by omega) hi155)
          | succ k168 ih =>
            intro i168 T168 h168 L168  hk168 X168 e168 K168q N168 qB
            have hi168 : i168 < (n - i155) := by omega
            have nb168 : i168 < 2147483648 := by omega
            have ha168 : i155 < n - i168 := by omega
            obtain ⟨y168, hy168⟩ : ∃ y, y = cs.getD (n - i168 - 1) 0 := ⟨_, rfl⟩
            have g168 : (cs.map lo8V).getD (n - i168 - 1) (.int 0) = .int (StrChars.lo8 y168) := by rw [hy168]; exact map_getD Hn (by omega)
            have r168 := rng_at Hr Hn (by omega) hy168
            show Go _ _ _ _ (T168.setTop (mkF m 28 #[.val (.ref t), .val (.int (Int32.ofNat (n - i168))), .val (.int (Int32.ofNat i155))] []))
            refine iL X168 hx (hb hby d_jdk_43m36_28) (q := 29) rfl rfl ?_
            refine iL X168 hx (hb hby d_jdk_43m36_29) (q := 30) rfl rfl ?_
            refine icN X168 hx (hb hby d_jdk_43m36_30) (q := 33) rfl (tlt (on_lt ha168 (by omega))).2.1 ?_
            refine aL X168 hx (hb hby d_jdk_43m36_33) (q := 34) rfl rfl rfl ?_
            refine iL X168 hx (hb hby d_jdk_43m36_34) (q := 35) rfl rfl ?_
            refine cI X168 hx (hb hby d_jdk_43m36_35) (q := 36) rfl (z := (1 : Int32)) rfl ?_
            refine g_isub X168 hx (hb hby d_jdk_43m36_36) (q := 37) rfl (z := (Int32.ofNat (n - i168 - 1))) (on_sub (show 1 ≤ n - i168 from by omega) (show n - i168 < 2147483648 from by omega)) ?_
            have f169 := f166.keep K168q nin0
            refine g_ldB X168 hx hZ0 f169 (i := (n - i168 - 1)) (on_clamp (show n - i168 - 1 < 2147483648 from by omega)) (on_nn (show n - i168 - 1 < 2147483648 from by omega)) (on_lt (show n - i168 - 1 < n from by omega) hnB) (v := (.int (StrChars.lo8 y168))) g168 e168 (hb hby d_jdk_43m36_37) (q := 38) rfl ?_
            refine pI X168 hx (hb hby d_jdk_43m36_38) (q := 41) rfl (z := (255 : Int32)) rfl ?_
            refine g_iand X168 hx (hb hby d_jdk_43m36_41) (q := 42) rfl (z := y168) (back8 r168.1 r168.2) ?_
            refine bI X168 hx (hb hby d_jdk_43m36_42) (q := 44) rfl (z := (32 : Int32)) rfl ?_
            by_cases hc170 : (32 : Int32) < y168
            · refine icY X168 hx (hb hby d_jdk_43m36_44) (q := 53) (by decide) (by decide) (tlt hc170).2.2.1 ?_
              rcases Nat.eq_zero_or_pos i155 with hp | hp
              · have hq0 : ¬ (0 : Int32) < Int32.ofNat i155 := by rw [hp]; exact lt_irr
                show Go _ _ _ _ (T168.setTop (mkF m 53 #[.val (.ref t), .val (.int (Int32.ofNat (n - i168))), .val (.int (Int32.ofNat i155))] []))
                refine iL X168 hx (hb hby d_jdk_43m36_53) (q := 54) rfl rfl ?_
                refine ifN X168 hx (hb hby d_jdk_43m36_54) (q := 57) rfl ((if0 _ _).trans (flt hq0).2.2.1) ?_
                refine iL X168 hx (hb hby d_jdk_43m36_57) (q := 58) rfl rfl ?_
                refine aL X168 hx (hb hby d_jdk_43m36_58) (q := 59) rfl rfl rfl ?_
                refine g_len X168 hx hZ0 f169 e168 (hb hby d_jdk_43m36_59) (q := 60) rfl ?_
                rcases Nat.eq_zero_or_pos i168 with hj | hj
                · have hq1 : ¬ Int32.ofNat (n - i168) < Int32.ofNat n := by rw [hj]; exact lt_irr
                  show Go _ _ _ _ (T168.setTop (mkF m 60 #[.val (.ref t), .val (.int (Int32.ofNat (n - i168))), .val (.int (Int32.ofNat i155))] [(.int (Int32.ofNat n)), (.int (Int32.ofNat (n - i168)))]))
                  refine icY X168 hx (hb hby d_jdk_43m36_60) (q := 74) (by decide) (by decide) (flt hq1).2.1 ?_
                  refine cN X168 hx (hb hby d_jdk_43m36_74) (q := 75) rfl ?_
                  have K171 : Keep h0 h155 [] := (Keep.refl h0 []).trans K155q all0
                  have K172 : Keep h0 h168 [] := K171.trans K168q all0
                  have f173 := C0.trans (CHr.keep K155q sf0 C0.1)
                  have f174 := f173.trans (CHr.keep K168q sf0 f173.1)
                  refine endC X168 hlk hS0 (by rw [e168]; exact (Nat.zero_le _)) hZ0 (own_EW hw) (by rw [e168]; exact f174) (fun h => by rw [hret] at h; cases h) (lastA X168 hx hret rfl rfl rfl (hb hby d_jdk_43m36_75)) ?_ (by decide) (by decide)
                  rw [e168]
                  exact ⟨.null, rfl, N168, K172, (Or.inl ⟨rfl, by omega, fun k q => absurd q (Nat.not_lt_zero _), fun k q1 q2 => absurd q1 (by omega), Or.inr ⟨by omega, by rw [← hp, ← hy155]; exact hc167, by rw [show 0 + n - 1 = n - i168 - 1 by omega, ← hy168]; exact hc170⟩⟩)⟩
                · show Go _ _ _ _ (T168.setTop (mkF m 60 #[.val (.ref t), .val (.int (Int32.ofNat (n - i168))), .val (.int (Int32.ofNat i155))] [(.int (Int32.ofNat n)), (.int (Int32.ofNat (n - i168)))]))
                  refine icN X168 hx (hb hby d_jdk_43m36_60) (q := 63) rfl (tlt (on_lt (show n - i168 < n from by omega) hnB)).2.1 ?_
                  refine aL X168 hx (hb hby d_jdk_43m36_63) (q := 64) rfl rfl rfl ?_
                  refine iL X168 hx (hb hby d_jdk_43m36_64) (q := 65) rfl rfl ?_
                  refine iL X168 hx (hb hby d_jdk_43m36_65) (q := 66) rfl rfl ?_
                  refine iL X168 hx (hb hby d_jdk_43m36_66) (q := 67) rfl rfl ?_
                  refine g_isub X168 hx (hb hby d_jdk_43m36_67) (q := 68) rfl (z := (Int32.ofNat (n - i168 - i155))) (on_sub (show i155 ≤ n - i168 from by omega) (show n - i168 < 2147483648 from by omega)) ?_
                  have f176 := O0.keep K155q all0
                  have f177 := f176.keep K168q all0
                  refine g_st X168 hx hZ0 hown0 (wd150 hw) (wd104 hw) (wd78 hw) (wd105 hw) (by decide) e168 (Con.back (W := 0) (rm_nstr l Z a0 hw zC SC PC vF rF SF aI SI aR SR t kb (cs.map lo8V) n i155 (n - i168 - i155) h168 f177 f169 (by rw [List.length_map]; exact Hn) Hm (show i155 + (n - i168 - i155) ≤ n from by omega) (show 0 < (n - i168 - i155) from by omega) (show ¬ (i155 = 0 ∧ (n - i168 - i155) = n) from by omega)) hZ0 (wd105 hw) (wd78 hw) (by decide) (by decide)) (by rw [hml]; rfl) (lenOf pd11 rfl) rfl (Nat.le_of_eq rfl) (hb hby d_jdk_43m36_68) (q := 71) rfl (by decide) (by decide) ?_
                  intro v175 T175 L175 X175 Q175
                  obtain ⟨r_175, ct_175, kc_175, rfl, Nq175, K175q, q175_0, q175_1, q175_2, q175_3⟩ := Q175
                  have N175 := Fr.app N168 Nq175
                  show Go _ _ _ _ (T175.setTop (mkF m 71 #[.val (.ref t), .val (.int (Int32.ofNat (n - i168))), .val (.int (Int32.ofNat i155))] [(.ref r_175)]))
                  refine g_goto X175 hx (hb hby d_jdk_43m36_71) (q := 75) (by decide) (by decide) ?_
                  have K178 : Keep h0 h155 [] := (Keep.refl h0 []).trans K155q all0
                  have K179 : Keep h0 h168 [] := K178.trans K168q all0
                  have K180 : Keep h0 T175.heap [] := K179.trans K175q all0
                  have f181 := C0.trans (CHr.keep K155q sf0 C0.1)
                  have f182 := f181.trans (CHr.keep K168q sf0 f181.1)
                  have f183 := f182.trans (CHr.keep K175q sf0 f182.1)
                  refine endC X175 hlk hS0 (Nat.zero_le _) hZ0 (own_EW hw) f183 (fun h => by rw [hret] at h; cases h) (lastA X175 hx hret rfl rfl rfl (hb hby d_jdk_43m36_75)) ?_ (by decide) (by decide)
                  exact ⟨(.ref r_175), rfl, N175, K180, (Or.inr ⟨r_175, ct_175, kc_175, i155, (n - i168 - i155), rfl, ⟨by omega, qA, fun k q1 q2 => qB k (by omega) q2, Or.inr ⟨by omega, by rw [← hy155]; exact hc167, by rw [show i155 + (n - i168 - i155) - 1 = n - i168 - 1 by omega, ← hy168]; exact hc170⟩⟩, q175_0, q175_1, q175_2, by have q := q175_3; rw [td_sub Hn (by omega)] at q; exact q⟩)⟩
              · show Go _ _ _ _ (T168.setTop (mkF m 53 #[.val (.ref t), .val (.int (Int32.ofNat (n - i168))), .val (.int (Int32.ofNat i155))] []))
                refine iL X168 hx (hb hby d_jdk_43m36_53) (q := 54) rfl rfl ?_
                refine ifY X168 hx (hb hby d_jdk_43m36_54) (q := 63) (by decide) (by decide) ((if0 _ _).trans (tlt (on_pos hp (by omega))).2.2.1) ?_
                refine aL X168 hx (hb hby d_jdk_43m36_63) (q := 64) rfl rfl rfl ?_
                refine iL X168 hx (hb hby d_jdk_43m36_64) (q := 65) rfl rfl ?_
                refine iL X168 hx (hb hby d_jdk_43m36_65) (q := 66) rfl rfl ?_
                refine iL X168 hx (hb hby d_jdk_43m36_66) (q := 67) rfl rfl ?_
                refine g_isub X168 hx (hb hby d_jdk_43m36_67) (q := 68) rfl (z := (Int32.ofNat (n - i168 - i155))) (on_sub (show i155 ≤ n - i168 from by omega) (show n - i168 < 2147483648 from by omega)) ?_
                have f185 := O0.keep K155q all0
                have f186 := f185.keep K168q all0
                refine g_st X168 hx hZ0 hown0 (wd150 hw) (wd104 hw) (wd78 hw) (wd105 hw) (by decide) e168 (Con.back (W := 0) (rm_nstr l Z a0 hw zC SC PC vF rF SF aI SI aR SR t kb (cs.map lo8V) n i155 (n - i168 - i155) h168 f186 f169 (by rw [List.length_map]; exact Hn) Hm (show i155 + (n - i168 - i155) ≤ n from by omega) (show 0 < (n - i168 - i155) from by omega) (show ¬ (i155 = 0 ∧ (n - i168 - i155) = n) from by omega)) hZ0 (wd105 hw) (wd78 hw) (by decide) (by decide)) (by rw [hml]; rfl) (lenOf pd11 rfl) rfl (Nat.le_of_eq rfl) (hb hby d_jdk_43m36_68) (q := 71) rfl (by decide) (by decide) ?_
                intro v184 T184 L184 X184 Q184
                obtain ⟨r_184, ct_184, kc_184, rfl, Nq184, K184q, q184_0, q184_1, q184_2, q184_3⟩ := Q184
                have N184 := Fr.app N168 Nq184
                show Go _ _ _ _ (T184.setTop (mkF m 71 #[.val (.ref t), .val (.int (Int32.ofNat (n - i168))), .val (.int (Int32.ofNat i155))] [(.ref r_184)]))
                refine g_goto X184 hx (hb hby d_jdk_43m36_71) (q := 75) (by decide) (by decide) ?_
                have K187 : Keep h0 h155 [] := (Keep.refl h0 []).trans K155q all0
                have K188 : Keep h0 h168 [] := K187.trans K168q all0
                have K189 : Keep h0 T184.heap [] := K188.trans K184q all0
                have f190 := C0.trans (CHr.keep K155q sf0 C0.1)
                have f191 := f190.trans (CHr.keep K168q sf0 f190.1)
                have f192 := f191.trans (CHr.keep K184q sf0 f191.1)
                refine endC X184 hlk hS0 (Nat.zero_le _) hZ0 (own_EW hw) f192 (fun h => by rw [hret] at h; cases h) (lastA X184 hx hret rfl rfl rfl (hb hby d_jdk_43m36_75)) ?_ (by decide) (by decide)
                exact ⟨(.ref r_184), rfl, N184, K189, (Or.inr ⟨r_184, ct_184, kc_184, i155, (n - i168 - i155), rfl, ⟨by omega, qA, fun k q1 q2 => qB k (by omega) q2, Or.inr ⟨by omega, by rw [← hy155]; exact hc167, by rw [show i155 + (n - i168 - i155) - 1 = n - i168 - 1 by omega, ← hy168]; exact hc170⟩⟩, q184_0, q184_1, q184_2, by have q := q184_3; rw [td_sub Hn (by omega)] at q; exact q⟩)⟩
            · refine icN X168 hx (hb hby d_jdk_43m36_44) (q := 47) rfl (flt hc170).2.2.1 ?_
              refine g_iinc X168 hx (hb hby d_jdk_43m36_47) (q := 50) rfl rfl (z := ((Int32.ofNat (n - i168)) + (-1 : Int32))) rfl (Ls' := #[.val (.ref t), .val (.int ((Int32.ofNat (n - i168)) + (-1 : Int32))), .val (.int (Int32.ofNat i155))]) rfl ?_
              refine g_goto X168 hx (hb hby d_jdk_43m36_50) (q := 28) (by decide) (by decide) ?_
              refine castGo (g' := mkF m 28 #[.val (.ref t), .val (.int (Int32.ofNat (n - (i168 + 1)))), .val (.int (Int32.ofNat i155))] []) (by rw [on_dec (show i168 < n from by omega) hnB]) ?_
              have K194 := (Keep.refl h155 []).trans K168q all0
              exact ih (i168 + 1) _ _ _  (by omega) X168 e168 K194 N168 (fun k q1 q2 => if q3 : k = n - i168 - 1 then (by rw [q3, ← hy168]; exact hc170) else qB k (by omega) q2)
        exact lp168 ((n - i155) - 0) 0 _ _ _  (by omega) X155 e155 (Keep.refl _ _) N155 (fun k q1 q2 => absurd q1 (by omega))
      · refine icN X155 hx (hb hby d_jdk_43m36_19) (q := 22) rfl (flt hc167).2.2.1 ?_
        refine g_iinc X155 hx (hb hby d_jdk_43m36_22) (q := 25) rfl rfl (z := (Int32.ofNat (i155 + 1))) (on_add (i155) 1) (Ls' := #[.val (.ref t), .val (.int (Int32.ofNat n)), .val (.int (Int32.ofNat (i155 + 1)))]) rfl ?_
        refine g_goto X155 hx (hb hby d_jdk_43m36_25) (q := 5) (by decide) (by decide) ?_
        have K196 := (Keep.refl h0 []).trans K155q all0
        exact ih (i155 + 1) _ _ _  (by omega) X155 e155 K196 N155 (all_step (P := fun j => ¬ (32 : Int32) < cs.getD j 0) qA (by rw [← hy155]; exact hc167))
  exact lp155 (n - 0) 0 _ _ _  (by omega) X0 e0 (Keep.refl _ _) N0 (fun _ q => absurd q (Nat.not_lt_zero _))
theorem d_jdk_42m113_0 : decode jdk_42_method_113_code 0 = .ok (.aload_n 0, 1) := by decide +kernel
theorem d_jdk_42m113_1 : decode jdk_42_method_113_code 1 = .ok (.invokevirtual 492, 3) := by decide +kernel
theorem d_jdk_42m113_4 : decode jdk_42_method_113_code 4 = .ok (.ifCond .eq 13, 3) := by decide +kernel
theorem d_jdk_42m113_7 : decode jdk_42_method_113_code 7 = .ok (.aload_n 0, 1) := by decide +kernel
theorem d_jdk_42m113_8 : decode jdk_42_method_113_code 8 = .ok (.getfield 9, 3) := by decide +kernel
theorem d_jdk_42m113_11 : decode jdk_42_method_113_code 11 = .ok (.invokestatic 859, 3) := by decide +kernel
theorem wd116 {a0 : Array Value} {Z : State} (hw : HW a0 Z) : ((Jvm.Cond.code ({ cls := "java/lang/StringLatin1", name := "trim", desc := "([B)Ljava/lang/String;" } : Jvm.MethodName) jdk_43_method_36_code (3 : Nat) (Option.some (Jvm.ClassFile.FieldType.object "java/lang/String"))) : Jvm.Cond).before a0 Z = true := hw _ (List.mem_of_getElem? (i := 116) rfl)
theorem pd13 : parseMethodDescriptor "([B)Ljava/lang/String;" = some ⟨[(.array .byte)], some (.object "java/lang/String")⟩ := by decide +kernel
theorem wd114 {a0 : Array Value} {Z : State} (hw : HW a0 Z) : ((Jvm.Cond.methodLink "java/lang/String" (859 : Nat) ({ cls := "java/lang/StringLatin1", name := "trim", desc := "([B)Ljava/lang/String;" } : Jvm.MethodName)) : Jvm.Cond).before a0 Z = true := hw _ (List.mem_of_getElem? (i := 114) rfl)
theorem wd115 {a0 : Array Value} {Z : State} (hw : HW a0 Z) : ((Jvm.Cond.static ({ cls := "java/lang/StringLatin1", name := "trim", desc := "([B)Ljava/lang/String;" } : Jvm.MethodName)) : Jvm.Cond).before a0 Z = true := hw _ (List.mem_of_getElem? (i := 115) rfl)
theorem d_jdk_42m113_14 : decode jdk_42_method_113_code 14 = .ok (.goto 10, 3) := by decide +kernel
theorem d_jdk_42m113_24 : decode jdk_42_method_113_code 24 = .ok (.astore_n 1, 1) := by decide +kernel
theorem d_jdk_42m113_25 : decode jdk_42_method_113_code 25 = .ok (.aload_n 1, 1) := by decide +kernel
theorem d_jdk_42m113_26 : decode jdk_42_method_113_code 26 = .ok (.ifnonnull 7, 3) := by decide +kernel
theorem d_jdk_42m113_29 : decode jdk_42_method_113_code 29 = .ok (.aload_n 0, 1) := by decide +kernel
theorem d_jdk_42m113_30 : decode jdk_42_method_113_code 30 = .ok (.goto 4, 3) := by decide +kernel
theorem d_jdk_42m113_34 : decode jdk_42_method_113_code 34 = .ok (.areturn, 1) := by decide +kernel
theorem d_jdk_42m113_33 : decode jdk_42_method_113_code 33 = .ok (.aload_n 1, 1) := by decide +kernel
def Q_str (Z : State) (zC : Int32) (vF : Value) (aI : Addr) (aR : Addr) (a1 : Addr) (t : Addr) (kb : ClassId) (cs : List Int32) (n : Nat) (h0 : Heap) (v : Option Value) (h : Heap) (L : List Loc) : Prop := ∃ (r : Addr), ∃ (ct : Addr), ∃ (kc : ClassId), ∃ (ti : Nat), ∃ (tm : Nat), v = some (.ref r) ∧ Fr Z.heap.size L ∧ Keep h0 h [] ∧ Exa Z h r sT0 ∧ Fld Z h r sT0 "coder" "B" (iv 0) ∧ Fld Z h r sT0 "value" "[B" (.ref ct) ∧ Arv Z h ct kc .byte (Int32.ofNat tm) ((List.take tm (List.drop ti cs)).map lo8V) (.int 0) ∧ (TRM cs n ti tm)
theorem rm_str (l : Launch) (Z : State) (a0 : Array Value) (hw : HW a0 Z) (zC : Int32) (SC : tSC Z zC) (PC : ¬ zC = (0 : Int32)) (vF : Value) (rF : vF = .null ∨ ∃ a, vF = .ref a) (SF : tSF Z vF) (aI : Addr) (SI : tSI Z aI) (aR : Addr) (SR : tSR Z aR) (a1 : Addr) (t : Addr) (kb : ClassId) (cs : List Int32) (n : Nat) (h0 : Heap) (O0 : Old Z Z.heap.size h0) (Pe : Exa Z h0 a1 sT0) (Pc : Fld Z h0 a1 sT0 "coder" "B" (iv 0)) (Pv : Fld Z h0 a1 sT0 "value" "[B" (.ref t)) (PB : Arv Z h0 t kb .byte (Int32.ofNat n) (cs.map lo8V) (.int 0)) (Hn : (cs.length = n)) (Hm : (n ≤ 5)) (Hr : (∀ x ∈ cs, ¬ x < 0 ∧ ¬ (255 : Int32) < x)) :
    ConS l Z EL (⟨sT0, "trim", "()Ljava/lang/String;"⟩ : MethodName) jdk_42_method_113_code 2 (some (.object sT0)) ({ frames := 5, cells := 2, slots := 9, locals := 91 } : Room) #[(.ref a1)] h0 [] (Q_str Z zC vF aI aR a1 t kb cs n h0) := by
  refine ConS.intro (plainFor_of_name pn3) ?_
  intro p e s m below meth c T0 v0 X0 hx hby hml hown0 hnm hret hlk hZ0 e0 hS0 C0 hsl0
  have N0 := Fr.nil Z.heap.size
  refine castGo (g' := mkF m 0 #[.val (.ref a1), .unset] []) (by first | rfl | (simp [entryFrame, mkF, argsToLocals, Value.category]; done)) ?_
  show Go _ _ _ _ (T0.setTop (mkF m 0 #[.val (.ref a1), .unset] []))
  refine aL X0 hx (hb hby d_jdk_42m113_0) (q := 1) rfl rfl rfl ?_
  refine g_vi X0 hx hZ0 hown0 (wd61 hw) (wd62 hw) (notFace_of_selects (args := #[]) (mvT hZ0 (wd64 hw))) (wd64 hw) (wd63 hw) (by decide) Pe e0 (Con.back (W := 0) (rm_isl0 l Z a0 hw zC SC PC vF rF SF aI SI aR SR a1 h0 O0 Pc) hZ0 (wd65 hw) (wd20 hw) (by decide) (by decide)) (by rw [hml]; rfl) (lenOf pd4 rfl) rfl (Nat.le_of_eq rfl) (hb hby d_jdk_42m113_1) (q := 4) rfl (by decide) (by decide) ?_
  intro v197 T197 L197 X197 Q197
  obtain ⟨rfl, Nq197, e197⟩ := Q197
  have N197 := Fr.app N0 Nq197
  show Go _ _ _ _ (T197.setTop (mkF m 4 #[.val (.ref a1), .unset] [(iv 1)]))
  refine ifN X197 hx (hb hby d_jdk_42m113_4) (q := 7) rfl (by decide) ?_
  refine aL X197 hx (hb hby d_jdk_42m113_7) (q := 8) rfl rfl rfl ?_
  refine g_getF X197 hx hZ0 hown0 (host := "") (Or.inl (wd45 hw)) Via.refl Pv e197 (hb hby d_jdk_42m113_8) (q := 11) rfl ?_
  intro T198 X198 e198
  refine g_stS X198 hx hZ0 hown0 hS0 (Nat.zero_le _) (wd114 hw) (wd115 hw) (wd78 hw) (wd116 hw) (by decide) e198 (ConS.back (W := 0) (rm_tr l Z a0 hw zC SC PC vF rF SF aI SI aR SR t kb cs n h0 O0 PB Hn Hm Hr) hZ0 (wd116 hw) (wd78 hw) (by decide) (by decide) (own_EW hw) C0.1 sf0 all0) (by rw [hml]; rfl) (lenOf pd13 rfl) rfl (Nat.le_of_eq rfl) (hb hby d_jdk_42m113_11) (q := 14) rfl (by decide) (by decide) ?_
  rintro v199 T199 L199 ⟨X199, hS199, hZ199, hown199, R199⟩ Q199
  obtain ⟨ov_199, rfl, Nq199, K199q, q199_0⟩ := Q199
  have N199 := Fr.app N197 Nq199
  show Go _ _ _ _ (T199.setTop (mkF m 14 #[.val (.ref a1), .unset] [ov_199]))
  rcases q199_0 with ⟨rfl, ht⟩ | ⟨rt, ctt, kct, it, mt, rfl, ht, fE, fC, fV, fA⟩
  · show Go _ _ _ _ (T199.setTop (mkF m 14 #[.val (.ref a1), .unset] [.null]))
    refine g_goto X199 hx (hb hby d_jdk_42m113_14) (q := 24) (by decide) (by decide) ?_
    refine sA X199 hx (hb hby d_jdk_42m113_24) (q := 25) rfl rfl (Ls' := #[.val (.ref a1), .val .null]) rfl ?_
    refine aL X199 hx (hb hby d_jdk_42m113_25) (q := 26) rfl rfl rfl ?_
    refine nnN X199 hx (hb hby d_jdk_42m113_26) (q := 29) rfl ?_
    refine aL X199 hx (hb hby d_jdk_42m113_29) (q := 30) rfl rfl rfl ?_
    refine g_goto X199 hx (hb hby d_jdk_42m113_30) (q := 34) (by decide) (by decide) ?_
    have K200 : Keep h0 T199.heap [] := (Keep.refl h0 []).trans K199q all0
    have f201 := Pe.keep K199q
    have f202 := Pc.keep K199q nin0
    have f203 := Pv.keep K199q nin0
    have f204 := PB.keep K199q nin0
    have f205 := C0.trans R199
    refine endC X199 hlk hS199 (Nat.le_trans (Nat.le_refl _) (Nat.le_refl _)) hZ199 (own_EW hw) f205 (fun h => by rw [hret] at h; cases h) (lastA X199 hx hret rfl rfl rfl (hb hby d_jdk_42m113_34)) ?_ (by decide) (by decide)
    exact ⟨a1, t, kb, 0, n, rfl, N199, K200, f201, f202, f203, (by rw [List.drop_zero, List.take_of_length_le (Nat.le_of_eq Hn)]; exact f204), ht⟩
  · show Go _ _ _ _ (T199.setTop (mkF m 14 #[.val (.ref a1), .unset] [(.ref rt)]))
    refine g_goto X199 hx (hb hby d_jdk_42m113_14) (q := 24) (by decide) (by decide) ?_
    refine sA X199 hx (hb hby d_jdk_42m113_24) (q := 25) rfl rfl (Ls' := #[.val (.ref a1), .val (.ref rt)]) rfl ?_
    refine aL X199 hx (hb hby d_jdk_42m113_25) (q := 26) rfl rfl rfl ?_
    refine nnY X199 hx (hb hby d_jdk_42m113_26) (q := 33) (by decide) (by decide) ?_
    refine aL X199 hx (hb hby d_jdk_42m113_33) (q := 34) rfl rfl rfl ?_
    have K206 : Keep h0 T199.heap [] := (Keep.refl h0 []).trans K199q all0
    have f207 := C0.trans R199
    refine endC X199 hlk hS199 (Nat.le_trans (Nat.le_refl _) (Nat.le_refl _)) hZ199 (own_EW hw) f207 (fun h => by rw [hret] at h; cases h) (lastA X199 hx hret rfl rfl rfl (hb hby d_jdk_42m113_34)) ?_ (by decide) (by decide)
    exact ⟨rt, ctt, kct, it, mt, rfl, N199, K206, fE, fC, fV, fA, ht⟩
theorem d_jdk_43m32_0 : decode jdk_43_method_32_code 0 = .ok (.aload_n 2, 1) := by decide +kernel
theorem d_jdk_43m32_1 : decode jdk_43_method_32_code 1 = .ok (.ifnonnull 11, 3) := by decide +kernel
theorem d_jdk_43m32_12 : decode jdk_43_method_32_code 12 = .ok (.aload_n 1, 1) := by decide +kernel
theorem d_jdk_43m32_13 : decode jdk_43_method_32_code 13 = .ok (.arraylength, 1) := by decide +kernel
theorem d_jdk_43m32_14 : decode jdk_43_method_32_code 14 = .ok (.istore 4, 2) := by decide +kernel
theorem d_jdk_43m32_16 : decode jdk_43_method_32_code 16 = .ok (.iconst 0, 1) := by decide +kernel
theorem d_jdk_43m32_17 : decode jdk_43_method_32_code 17 = .ok (.istore_n 3, 1) := by decide +kernel
theorem d_jdk_43m32_18 : decode jdk_43_method_32_code 18 = .ok (.iload_n 3, 1) := by decide +kernel
theorem d_jdk_43m32_19 : decode jdk_43_method_32_code 19 = .ok (.iload 4, 2) := by decide +kernel
theorem d_jdk_43m32_21 : decode jdk_43_method_32_code 21 = .ok (.if_icmp .ge 34, 3) := by decide +kernel
theorem d_jdk_43m32_55 : decode jdk_43_method_32_code 55 = .ok (.iload_n 3, 1) := by decide +kernel
theorem d_jdk_43m32_56 : decode jdk_43_method_32_code 56 = .ok (.iload 4, 2) := by decide +kernel
theorem d_jdk_43m32_58 : decode jdk_43_method_32_code 58 = .ok (.if_icmp .ne 5, 3) := by decide +kernel
theorem d_jdk_43m32_61 : decode jdk_43_method_32_code 61 = .ok (.aload_n 0, 1) := by decide +kernel
theorem d_jdk_43m32_62 : decode jdk_43_method_32_code 62 = .ok (.areturn, 1) := by decide +kernel
theorem d_jdk_43m32_24 : decode jdk_43_method_32_code 24 = .ok (.aload_n 1, 1) := by decide +kernel
theorem d_jdk_43m32_25 : decode jdk_43_method_32_code 25 = .ok (.iload_n 3, 1) := by decide +kernel
theorem d_jdk_43m32_26 : decode jdk_43_method_32_code 26 = .ok (.baload, 1) := by decide +kernel
theorem d_jdk_43m32_27 : decode jdk_43_method_32_code 27 = .ok (.sipush 255, 3) := by decide +kernel
theorem d_jdk_43m32_30 : decode jdk_43_method_32_code 30 = .ok (.iand, 1) := by decide +kernel
theorem d_jdk_43m32_31 : decode jdk_43_method_32_code 31 = .ok (.istore 5, 2) := by decide +kernel
theorem d_jdk_43m32_33 : decode jdk_43_method_32_code 33 = .ok (.iload 5, 2) := by decide +kernel
theorem d_jdk_43m32_35 : decode jdk_43_method_32_code 35 = .ok (.getstatic 66, 3) := by decide +kernel
theorem wd151 {a0 : Array Value} {Z : State} (hw : HW a0 Z) : ((Jvm.Cond.fieldLink "java/lang/StringLatin1" (66 : Nat) "java/lang/CharacterDataLatin1" "instance" "Ljava/lang/CharacterDataLatin1;") : Jvm.Cond).before a0 Z = true := hw _ (List.mem_of_getElem? (i := 151) rfl)
theorem d_jdk_43m32_38 : decode jdk_43_method_32_code 38 = .ok (.iload 5, 2) := by decide +kernel
theorem d_jdk_43m32_40 : decode jdk_43_method_32_code 40 = .ok (.invokevirtual 160, 3) := by decide +kernel
theorem wd157 {a0 : Array Value} {Z : State} (hw : HW a0 Z) : ((Jvm.Cond.code ({ cls := "java/lang/CharacterDataLatin1", name := "toLowerCase", desc := "(I)I" } : Jvm.MethodName) jdk_116_method_20_code (3 : Nat) (Option.some Jvm.ClassFile.FieldType.int)) : Jvm.Cond).before a0 Z = true := hw _ (List.mem_of_getElem? (i := 157) rfl)
theorem wd152 {a0 : Array Value} {Z : State} (hw : HW a0 Z) : ((Jvm.Cond.initialized "java/lang/CharacterDataLatin1") : Jvm.Cond).before a0 Z = true := hw _ (List.mem_of_getElem? (i := 152) rfl)
theorem pd14 : parseMethodDescriptor "(I)I" = some ⟨[.int], some .int⟩ := by decide +kernel
theorem wd156 {a0 : Array Value} {Z : State} (hw : HW a0 Z) : ((Jvm.Cond.selects "java/lang/CharacterDataLatin1" ({ cls := "java/lang/CharacterDataLatin1", name := "toLowerCase", desc := "(I)I" } : Jvm.MethodName) ({ cls := "java/lang/CharacterDataLatin1", name := "toLowerCase", desc := "(I)I" } : Jvm.MethodName)) : Jvm.Cond).before a0 Z = true := hw _ (List.mem_of_getElem? (i := 156) rfl)
theorem wd153 {a0 : Array Value} {Z : State} (hw : HW a0 Z) : ((Jvm.Cond.methodLink "java/lang/StringLatin1" (160 : Nat) ({ cls := "java/lang/CharacterDataLatin1", name := "toLowerCase", desc := "(I)I" } : Jvm.MethodName)) : Jvm.Cond).before a0 Z = true := hw _ (List.mem_of_getElem? (i := 153) rfl)
theorem wd154 {a0 : Array Value} {Z : State} (hw : HW a0 Z) : ((Jvm.Cond.declares ({ cls := "java/lang/CharacterDataLatin1", name := "toLowerCase", desc := "(I)I" } : Jvm.MethodName)) : Jvm.Cond).before a0 Z = true := hw _ (List.mem_of_getElem? (i := 154) rfl)
theorem wd155 {a0 : Array Value} {Z : State} (hw : HW a0 Z) : ((Jvm.Cond.instanceMethod ({ cls := "java/lang/CharacterDataLatin1", name := "toLowerCase", desc := "(I)I" } : Jvm.MethodName)) : Jvm.Cond).before a0 Z = true := hw _ (List.mem_of_getElem? (i := 155) rfl)
theorem d_jdk_43m32_43 : decode jdk_43_method_32_code 43 = .ok (.if_icmp .eq 6, 3) := by decide +kernel
theorem d_jdk_43m32_49 : decode jdk_43_method_32_code 49 = .ok (.iinc 3 1, 3) := by decide +kernel
theorem d_jdk_43m32_52 : decode jdk_43_method_32_code 52 = .ok (.goto (-34), 3) := by decide +kernel
theorem d_jdk_43m32_46 : decode jdk_43_method_32_code 46 = .ok (.goto 9, 3) := by decide +kernel
theorem d_jdk_43m32_63 : decode jdk_43_method_32_code 63 = .ok (.aload_n 2, 1) := by decide +kernel
theorem d_jdk_43m32_64 : decode jdk_43_method_32_code 64 = .ok (.invokevirtual 162, 3) := by decide +kernel
theorem wd179 {a0 : Array Value} {Z : State} (hw : HW a0 Z) : ((Jvm.Cond.code ({ cls := "java/util/Locale", name := "getLanguage", desc := "()Ljava/lang/String;" } : Jvm.MethodName) jdk_2628_method_27_code (1 : Nat) (Option.some (Jvm.ClassFile.FieldType.object "java/lang/String"))) : Jvm.Cond).before a0 Z = true := hw _ (List.mem_of_getElem? (i := 179) rfl)
theorem wd118 {a0 : Array Value} {Z : State} (hw : HW a0 Z) : ((Jvm.Cond.initialized "java/util/Locale") : Jvm.Cond).before a0 Z = true := hw _ (List.mem_of_getElem? (i := 118) rfl)
theorem wd178 {a0 : Array Value} {Z : State} (hw : HW a0 Z) : ((Jvm.Cond.selects "java/util/Locale" ({ cls := "java/util/Locale", name := "getLanguage", desc := "()Ljava/lang/String;" } : Jvm.MethodName) ({ cls := "java/util/Locale", name := "getLanguage", desc := "()Ljava/lang/String;" } : Jvm.MethodName)) : Jvm.Cond).before a0 Z = true := hw _ (List.mem_of_getElem? (i := 178) rfl)
theorem wd175 {a0 : Array Value} {Z : State} (hw : HW a0 Z) : ((Jvm.Cond.methodLink "java/lang/StringLatin1" (162 : Nat) ({ cls := "java/util/Locale", name := "getLanguage", desc := "()Ljava/lang/String;" } : Jvm.MethodName)) : Jvm.Cond).before a0 Z = true := hw _ (List.mem_of_getElem? (i := 175) rfl)
theorem wd176 {a0 : Array Value} {Z : State} (hw : HW a0 Z) : ((Jvm.Cond.declares ({ cls := "java/util/Locale", name := "getLanguage", desc := "()Ljava/lang/String;" } : Jvm.MethodName)) : Jvm.Cond).before a0 Z = true := hw _ (List.mem_of_getElem? (i := 176) rfl)
theorem wd177 {a0 : Array Value} {Z : State} (hw : HW a0 Z) : ((Jvm.Cond.instanceMethod ({ cls := "java/util/Locale", name := "getLanguage", desc := "()Ljava/lang/String;" } : Jvm.MethodName)) : Jvm.Cond).before a0 Z = true := hw _ (List.mem_of_getElem? (i := 177) rfl)
theorem d_jdk_43m32_67 : decode jdk_43_method_32_code 67 = .ok (.astore 5, 2) := by decide +kernel
theorem d_jdk_43m32_69 : decode jdk_43_method_32_code 69 = .ok (.aload 5, 2) := by decide +kernel
theorem d_jdk_43m32_71 : decode jdk_43_method_32_code 71 = .ok (.ldc 168, 2) := by decide +kernel
theorem d_jdk_43m32_73 : decode jdk_43_method_32_code 73 = .ok (.if_acmp .eq 17, 3) := by decide +kernel
theorem d_jdk_43m32_76 : decode jdk_43_method_32_code 76 = .ok (.aload 5, 2) := by decide +kernel
theorem d_jdk_43m32_78 : decode jdk_43_method_32_code 78 = .ok (.ldc 170, 2) := by decide +kernel
theorem d_jdk_43m32_80 : decode jdk_43_method_32_code 80 = .ok (.if_acmp .eq 10, 3) := by decide +kernel
theorem d_jdk_43m32_83 : decode jdk_43_method_32_code 83 = .ok (.aload 5, 2) := by decide +kernel
theorem d_jdk_43m32_85 : decode jdk_43_method_32_code 85 = .ok (.ldc 172, 2) := by decide +kernel
theorem d_jdk_43m32_87 : decode jdk_43_method_32_code 87 = .ok (.if_acmp .ne 12, 3) := by decide +kernel
theorem d_jdk_43m32_99 : decode jdk_43_method_32_code 99 = .ok (.iload 4, 2) := by decide +kernel
theorem d_jdk_43m32_101 : decode jdk_43_method_32_code 101 = .ok (.newarray .byte, 2) := by decide +kernel
theorem d_jdk_43m32_103 : decode jdk_43_method_32_code 103 = .ok (.astore 6, 2) := by decide +kernel
theorem d_jdk_43m32_105 : decode jdk_43_method_32_code 105 = .ok (.aload_n 1, 1) := by decide +kernel
theorem d_jdk_43m32_106 : decode jdk_43_method_32_code 106 = .ok (.iconst 0, 1) := by decide +kernel
theorem d_jdk_43m32_107 : decode jdk_43_method_32_code 107 = .ok (.aload 6, 2) := by decide +kernel
theorem d_jdk_43m32_109 : decode jdk_43_method_32_code 109 = .ok (.iconst 0, 1) := by decide +kernel
theorem d_jdk_43m32_110 : decode jdk_43_method_32_code 110 = .ok (.iload_n 3, 1) := by decide +kernel
theorem d_jdk_43m32_111 : decode jdk_43_method_32_code 111 = .ok (.invokestatic 28, 3) := by decide +kernel
theorem wd193 {a0 : Array Value} {Z : State} (hw : HW a0 Z) : ((Jvm.Cond.methodLink "java/lang/StringLatin1" (28 : Nat) ({ cls := "java/lang/System", name := "arraycopy", desc := "(Ljava/lang/Object;ILjava/lang/Object;II)V" } : Jvm.MethodName)) : Jvm.Cond).before a0 Z = true := hw _ (List.mem_of_getElem? (i := 193) rfl)
theorem d_jdk_43m32_114 : decode jdk_43_method_32_code 114 = .ok (.iload_n 3, 1) := by decide +kernel
theorem d_jdk_43m32_115 : decode jdk_43_method_32_code 115 = .ok (.istore 7, 2) := by decide +kernel
theorem d_jdk_43m32_117 : decode jdk_43_method_32_code 117 = .ok (.iload 7, 2) := by decide +kernel
theorem d_jdk_43m32_119 : decode jdk_43_method_32_code 119 = .ok (.iload 4, 2) := by decide +kernel
theorem d_jdk_43m32_121 : decode jdk_43_method_32_code 121 = .ok (.if_icmp .ge 54, 3) := by decide +kernel
theorem d_jdk_43m32_175 : decode jdk_43_method_32_code 175 = .ok (.new 1, 3) := by decide +kernel
theorem d_jdk_43m32_178 : decode jdk_43_method_32_code 178 = .ok (.dup, 1) := by decide +kernel
theorem d_jdk_43m32_179 : decode jdk_43_method_32_code 179 = .ok (.aload 6, 2) := by decide +kernel
theorem d_jdk_43m32_181 : decode jdk_43_method_32_code 181 = .ok (.iconst 0, 1) := by decide +kernel
theorem d_jdk_43m32_182 : decode jdk_43_method_32_code 182 = .ok (.invokespecial 112, 3) := by decide +kernel
theorem d_jdk_43m32_185 : decode jdk_43_method_32_code 185 = .ok (.areturn, 1) := by decide +kernel
theorem d_jdk_43m32_124 : decode jdk_43_method_32_code 124 = .ok (.aload_n 1, 1) := by decide +kernel
theorem d_jdk_43m32_125 : decode jdk_43_method_32_code 125 = .ok (.iload 7, 2) := by decide +kernel
theorem d_jdk_43m32_127 : decode jdk_43_method_32_code 127 = .ok (.baload, 1) := by decide +kernel
theorem d_jdk_43m32_128 : decode jdk_43_method_32_code 128 = .ok (.sipush 255, 3) := by decide +kernel
theorem d_jdk_43m32_131 : decode jdk_43_method_32_code 131 = .ok (.iand, 1) := by decide +kernel
theorem d_jdk_43m32_132 : decode jdk_43_method_32_code 132 = .ok (.istore 8, 2) := by decide +kernel
theorem d_jdk_43m32_134 : decode jdk_43_method_32_code 134 = .ok (.getstatic 66, 3) := by decide +kernel
theorem d_jdk_43m32_137 : decode jdk_43_method_32_code 137 = .ok (.iload 8, 2) := by decide +kernel
theorem d_jdk_43m32_139 : decode jdk_43_method_32_code 139 = .ok (.invokevirtual 160, 3) := by decide +kernel
theorem d_jdk_43m32_142 : decode jdk_43_method_32_code 142 = .ok (.istore 8, 2) := by decide +kernel
theorem d_jdk_43m32_144 : decode jdk_43_method_32_code 144 = .ok (.iload 8, 2) := by decide +kernel
theorem d_jdk_43m32_146 : decode jdk_43_method_32_code 146 = .ok (.invokestatic 88, 3) := by decide +kernel
theorem d_jdk_43m32_149 : decode jdk_43_method_32_code 149 = .ok (.ifCond .ne 12, 3) := by decide +kernel
theorem d_jdk_43m32_161 : decode jdk_43_method_32_code 161 = .ok (.aload 6, 2) := by decide +kernel
theorem d_jdk_43m32_163 : decode jdk_43_method_32_code 163 = .ok (.iload 7, 2) := by decide +kernel
theorem d_jdk_43m32_165 : decode jdk_43_method_32_code 165 = .ok (.iload 8, 2) := by decide +kernel
theorem d_jdk_43m32_167 : decode jdk_43_method_32_code 167 = .ok (.i2b, 1) := by decide +kernel
theorem d_jdk_43m32_168 : decode jdk_43_method_32_code 168 = .ok (.bastore, 1) := by decide +kernel
theorem d_jdk_43m32_169 : decode jdk_43_method_32_code 169 = .ok (.iinc 7 1, 3) := by decide +kernel
theorem d_jdk_43m32_172 : decode jdk_43_method_32_code 172 = .ok (.goto (-55), 3) := by decide +kernel
def Q_tlc (Z : State) (zC : Int32) (vF : Value) (aI : Addr) (aR : Addr) (a1 : Addr) (t : Addr) (kb : ClassId) (cs : List Int32) (n : Nat) (aB : Addr) (aG : Addr) (aV : Addr) (kG : ClassId) (gL : List Value) (h0 : Heap) (v : Option Value) (h : Heap) (L : List Loc) : Prop := ∃ (r : Addr), ∃ (ct : Addr), ∃ (kc : ClassId), v = some (.ref r) ∧ Fr Z.heap.size L ∧ Keep h0 h [] ∧ Exa Z h r sT0 ∧ Fld Z h r sT0 "coder" "B" (iv 0) ∧ Fld Z h r sT0 "value" "[B" (.ref ct) ∧ Arv Z h ct kc .byte (Int32.ofNat n) (cs.map lo8W) (.int 0)
theorem rm_tlc (l : Launch) (Z : State) (a0 : Array Value) (hw : HW a0 Z) (zC : Int32) (SC : tSC Z zC) (PC : ¬ zC = (0 : Int32)) (vF : Value) (rF : vF = .null ∨ ∃ a, vF = .ref a) (SF : tSF Z vF) (aI : Addr) (SI : tSI Z aI) (aR : Addr) (SR : tSR Z aR) (a1 : Addr) (t : Addr) (kb : ClassId) (cs : List Int32) (n : Nat) (aB : Addr) (aG : Addr) (aV : Addr) (kG : ClassId) (gL : List Value) (h0 : Heap) (O0 : Old Z Z.heap.size h0) (Pe : Exa Z h0 a1 sT0) (Pc : Fld Z h0 a1 sT0 "coder" "B" (iv 0)) (Pv : Fld Z h0 a1 sT0 "value" "[B" (.ref t)) (PB : Arv Z h0 t kb .byte (Int32.ofNat n) (cs.map lo8V) (.int 0)) (Hn : (cs.length = n)) (Hm : (n ≤ 5)) (Hr : (∀ x ∈ cs, ¬ x < 0 ∧ ¬ (255 : Int32) < x)) (L1 : Exa Z h0 aR "java/util/Locale") (L2 : Fld Z h0 aR "java/util/Locale" "baseLocale" "Lsun/util/locale/BaseLocale;" (.ref aB)) (L3 : Exa Z h0 aB "sun/util/locale/BaseLocale") (L4 : Fld Z h0 aB "sun/util/locale/BaseLocale" "language" "Ljava/lang/String;" (.ref aG)) (L5 : Exa Z h0 aG sT0) (L6 : Fld Z h0 aG sT0 "value" "[B" (.ref aV)) (L7 : Arv Z h0 aV kG .byte (0 : Int32) gL (.int 0)) (L8 : Exa Z h0 aI "java/lang/CharacterDataLatin1") :
    ConS l Z EL (⟨"java/lang/StringLatin1", "toLowerCase", "(Ljava/lang/String;[BLjava/util/Locale;)Ljava/lang/String;"⟩ : MethodName) jdk_43_method_32_code 9 (some (.object sT0)) ({ frames := 2, cells := 8, slots := 45, locals := 31 } : Room) #[(.ref a1), (.ref t), (.ref aR)] h0 [] (Q_tlc Z zC vF aI aR a1 t kb cs n aB aG aV kG gL h0) := by
  refine ConS.intro (plainFor_of_name pn2) ?_
  intro p e s m below meth c T0 v0 X0 hx hby hml hown0 hnm hret hlk hZ0 e0 hS0 C0 hsl0
  have N0 := Fr.nil Z.heap.size
  refine castGo (g' := mkF m 0 #[.val (.ref a1), .val (.ref t), .val (.ref aR), .unset, .unset, .unset, .unset, .unset, .unset] []) (by first | rfl | (simp [entryFrame, mkF, argsToLocals, Value.category]; done)) ?_
  have hnB : n < 2147483648 := by omega
  show Go _ _ _ _ (T0.setTop (mkF m 0 #[.val (.ref a1), .val (.ref t), .val (.ref aR), .unset, .unset, .unset, .unset, .unset, .unset] []))
  refine aL X0 hx (hb hby d_jdk_43m32_0) (q := 1) rfl rfl rfl ?_
  refine nnY X0 hx (hb hby d_jdk_43m32_1) (q := 12) (by decide) (by decide) ?_
  refine aL X0 hx (hb hby d_jdk_43m32_12) (q := 13) rfl rfl rfl ?_
  refine g_len X0 hx hZ0 PB e0 (hb hby d_jdk_43m32_13) (q := 14) rfl ?_
  refine sIw X0 hx (hb hby d_jdk_43m32_14) (q := 16) rfl (Ls' := #[.val (.ref a1), .val (.ref t), .val (.ref aR), .unset, .val (.int (Int32.ofNat n)), .unset, .unset, .unset, .unset]) rfl ?_
  refine cI X0 hx (hb hby d_jdk_43m32_16) (q := 17) rfl (z := (0 : Int32)) rfl ?_
  refine sI X0 hx (hb hby d_jdk_43m32_17) (q := 18) rfl (Ls' := #[.val (.ref a1), .val (.ref t), .val (.ref aR), .val (iv 0), .val (.int (Int32.ofNat n)), .unset, .unset, .unset, .unset]) rfl ?_
  have lp208 : ∀ (k208 i208 : Nat) (T208 : State) (h208 : Heap) (L208 : List Loc) (sl208_5 : Slot), i208 + k208 = n → Stand p l e ({ frames := 2, cells := 8, slots := 45, locals := 31 } : Room) (s.setVm v0) m #[(.ref a1), (.ref t), (.ref aR)] below meth c T208 L208 0 0 → T208.heap = h208 → Keep h0 h208 [] → Fr Z.heap.size L208 → (sl208_5 = .unset ∨ ∃ x : Int32, sl208_5 = .val (.int x)) → (∀ j, j < i208 → low (cs.getD j 0) = cs.getD j 0) → Go p.tables e below (SEnd Z EL s (Q_tlc Z zC vF aI aR a1 t kb cs n aB aG aV kG gL h0) ({ frames := 2, cells := 8, slots := 45, locals := 31 } : Room).cells ({ frames := 2, cells := 8, slots := 45, locals := 31 } : Room).slots) (T208.setTop (mkF m 18 #[.val (.ref a1), .val (.ref t), .val (.ref aR), .val (.int (Int32.ofNat i208)), .val (.int (Int32.ofNat n)), sl208_5, .unset, .unset, .unset] [])) := by
    intro k208
    induction k208 with
    | zero =>
      intro i208 T208 h208 L208 sl208_5 hk208 X208 e208 K208q N208 hs208_5 q1
      have hi208 : i208 = n := by omega
      have nb208 : i208 < 2147483648 := by omega
      have hz208 : ¬ (Int32.ofNat i208 < Int32.ofNat n) := by rw [hi208]; exact lt_irr
      have hw208 : Int32.ofNat i208 = Int32.ofNat n := by rw [hi208]
      show Go _ _ _ _ (T208.setTop (mkF m 18 #[.val (.ref a1), .val (.ref t), .val (.ref aR), .val (.int (Int32.ofNat i208)), .val (.int (Int32.ofNat n)), sl208_5, .unset, .unset, .unset] []))
      refine iL X208 hx (hb hby d_jdk_43m32_18) (q := 19) rfl rfl ?_
      refine iLw X208 hx (hb hby d_jdk_43m32_19) (q := 21) rfl rfl ?_
      refine icY X208 hx (hb hby d_jdk_43m32_21) (q := 55) (by decide) (by decide) (flt hz208).2.1 ?_
      refine iL X208 hx (hb hby d_jdk_43m32_55) (q := 56) rfl rfl ?_
      refine iLw X208 hx (hb hby d_jdk_43m32_56) (q := 58) rfl rfl ?_
      refine icN X208 hx (hb hby d_jdk_43m32_58) (q := 61) rfl (teq hw208).2 ?_
      refine aL X208 hx (hb hby d_jdk_43m32_61) (q := 62) rfl rfl rfl ?_
      have K209 : Keep h0 h208 [] := (Keep.refl h0 []).trans K208q all0
      have f210 := Pe.keep K208q
      have f211 := Pc.keep K208q nin0
      have f212 := Pv.keep K208q nin0
      have f213 := PB.keep K208q nin0
      have f214 := C0.trans (CHr.keep K208q sf0 C0.1)
      refine endC X208 hlk hS0 (by rw [e208]; exact (Nat.zero_le _)) hZ0 (own_EW hw) (by rw [e208]; exact f214) (fun h => by rw [hret] at h; cases h) (lastA X208 hx hret rfl rfl rfl (hb hby d_jdk_43m32_62)) ?_ (by decide) (by decide)
      rw [e208]
      exact ⟨a1, t, kb, rfl, N208, K209, f210, f211, f212, (by rw [← map_same Hn (hi208 ▸ q1)]; exact f213)⟩
    | succ k208 ih =>
      intro i208 T208 h208 L208 sl208_5 hk208 X208 e208 K208q N208 hs208_5 q1
      have hi208 : i208 < n := by omega
      have nb208 : i208 < 2147483648 := by omega
      obtain ⟨y208, hy208⟩ : ∃ y, y = cs.getD i208 0 := ⟨_, rfl⟩
      have g208 : (cs.map lo8V).getD i208 (.int 0) = .int (StrChars.lo8 y208) := by rw [hy208]; exact map_getD Hn hi208
      have r208 := rng_at Hr Hn hi208 hy208
      show Go _ _ _ _ (T208.setTop (mkF m 18 #[.val (.ref a1), .val (.ref t), .val (.ref aR), .val (.int (Int32.ofNat i208)), .val (.int (Int32.ofNat n)), sl208_5, .unset, .unset, .unset] []))
      refine iL X208 hx (hb hby d_jdk_43m32_18) (q := 19) rfl rfl ?_
      refine iLw X208 hx (hb hby d_jdk_43m32_19) (q := 21) rfl rfl ?_
      refine icN X208 hx (hb hby d_jdk_43m32_21) (q := 24) rfl (tlt (on_lt hi208 hnB)).2.1 ?_
      refine aL X208 hx (hb hby d_jdk_43m32_24) (q := 25) rfl rfl rfl ?_
      refine iL X208 hx (hb hby d_jdk_43m32_25) (q := 26) rfl rfl ?_
      have f215 := PB.keep K208q nin0
      refine g_ldB X208 hx hZ0 f215 (i := i208) (on_clamp nb208) (on_nn nb208) (on_lt hi208 hnB) (v := (.int (StrChars.lo8 y208))) g208 e208 (hb hby d_jdk_43m32_26) (q := 27) rfl ?_
      refine pI X208 hx (hb hby d_jdk_43m32_27) (q := 30) rfl (z := (255 : Int32)) rfl ?_
      refine g_iand X208 hx (hb hby d_jdk_43m32_30) (q := 31) rfl (z := y208) (back8 r208.1 r208.2) ?_
      refine sIw X208 hx (hb hby d_jdk_43m32_31) (q := 33) rfl (Ls' := #[.val (.ref a1), .val (.ref t), .val (.ref aR), .val (.int (Int32.ofNat i208)), .val (.int (Int32.ofNat n)), .val (.int y208), .unset, .unset, .unset]) (by rcases hs208_5 with rfl | ⟨_, rfl⟩ <;> rfl) ?_
      refine iLw X208 hx (hb hby d_jdk_43m32_33) (q := 35) rfl rfl ?_
      have f217 := O0.keep K208q all0
      refine g_getS X208 hx hZ0 hown0 (host := "") (Or.inl (wd151 hw)) Via.refl (SI.ext f217.2) e208 (hb hby d_jdk_43m32_35) (q := 38) rfl ?_
      intro T216 X216 e216
      refine iLw X216 hx (hb hby d_jdk_43m32_38) (q := 40) rfl rfl ?_
      have f219 := L8.keep K208q
      refine g_vi X216 hx hZ0 hown0 (wd153 hw) (wd154 hw) (notFace_of_selects (args := #[]) (mvT hZ0 (wd156 hw))) (wd156 hw) (wd155 hw) (by decide) f219 e216 (Con.back (W := 1) (rm_cdl l Z a0 hw zC SC PC vF rF SF aI SI aR SR aI y208 h208 f217 r208.1 r208.2) hZ0 (wd157 hw) (wd152 hw) (by decide) (by decide)) (by rw [hml]; rfl) (lenOf pd14 rfl) rfl (Nat.le_of_eq rfl) (hb hby d_jdk_43m32_40) (q := 43) rfl (by decide) (by decide) ?_
      intro v218 T218 L218 X218 Q218
      obtain ⟨rfl, Nq218, e218⟩ := Q218
      have N218 := Fr.app N208 Nq218
      show Go _ _ _ _ (T218.setTop (mkF m 43 #[.val (.ref a1), .val (.ref t), .val (.ref aR), .val (.int (Int32.ofNat i208)), .val (.int (Int32.ofNat n)), .val (.int y208), .unset, .unset, .unset] [(.int (low y208)), (.int y208)]))
      by_cases hc220 : y208 = (low y208)
      · refine icY X218 hx (hb hby d_jdk_43m32_43) (q := 49) (by decide) (by decide) (teq hc220).1 ?_
        refine g_iinc X218 hx (hb hby d_jdk_43m32_49) (q := 52) rfl rfl (z := (Int32.ofNat (i208 + 1))) (on_add (i208) 1) (Ls' := #[.val (.ref a1), .val (.ref t), .val (.ref aR), .val (.int (Int32.ofNat (i208 + 1))), .val (.int (Int32.ofNat n)), .val (.int y208), .unset, .unset, .unset]) rfl ?_
        refine g_goto X218 hx (hb hby d_jdk_43m32_52) (q := 18) (by decide) (by decide) ?_
        have K336 := (Keep.refl h0 []).trans K208q all0
        exact ih (i208 + 1) _ _ _ (.val (.int y208)) (by omega) X218 e218 K336 N218 (Or.inr ⟨_, rfl⟩) (all_step (P := fun j => low (cs.getD j 0) = cs.getD j 0) q1 (by rw [← hy208]; exact Eq.symm hc220))
      · refine icN X218 hx (hb hby d_jdk_43m32_43) (q := 46) rfl (feq hc220).1 ?_
        refine g_goto X218 hx (hb hby d_jdk_43m32_46) (q := 55) (by decide) (by decide) ?_
        refine iL X218 hx (hb hby d_jdk_43m32_55) (q := 56) rfl rfl ?_
        refine iLw X218 hx (hb hby d_jdk_43m32_56) (q := 58) rfl rfl ?_
        refine icY X218 hx (hb hby d_jdk_43m32_58) (q := 63) (by decide) (by decide) (feq (on_ne hi208 hnB)).2 ?_
        refine aL X218 hx (hb hby d_jdk_43m32_63) (q := 64) rfl rfl rfl ?_
        have f227 := L1.keep K208q
        have f228 := L2.keep K208q nin0
        have f229 := L3.keep K208q
        have f230 := L4.keep K208q nin0
        refine g_vi X218 hx hZ0 hown0 (wd175 hw) (wd176 hw) (notFace_of_selects (args := #[]) (mvT hZ0 (wd178 hw))) (wd178 hw) (wd177 hw) (by decide) f227 e218 (Con.back (W := 0) (rm_lcg l Z a0 hw zC SC PC vF rF SF aI SI aR SR aB aG h208 f217 f227 f228 f229 f230) hZ0 (wd179 hw) (wd118 hw) (by decide) (by decide)) (by rw [hml]; rfl) (lenOf pd12 rfl) rfl (Nat.le_of_eq rfl) (hb hby d_jdk_43m32_64) (q := 67) rfl (by decide) (by decide) ?_
        intro v226 T226 L226 X226 Q226
        obtain ⟨rfl, Nq226, e226⟩ := Q226
        have N226 := Fr.app N218 Nq226
        show Go _ _ _ _ (T226.setTop (mkF m 67 #[.val (.ref a1), .val (.ref t), .val (.ref aR), .val (.int (Int32.ofNat i208)), .val (.int (Int32.ofNat n)), .val (.int y208), .unset, .unset, .unset] [(.ref aG)]))
        refine sAw X226 hx (hb hby d_jdk_43m32_67) (q := 69) rfl rfl (Ls' := #[.val (.ref a1), .val (.ref t), .val (.ref aR), .val (.int (Int32.ofNat i208)), .val (.int (Int32.ofNat n)), .val (.ref aG), .unset, .unset, .unset]) rfl ?_
        refine aLw X226 hx (hb hby d_jdk_43m32_69) (q := 71) rfl rfl rfl ?_
        have f232 := C0.trans (CHr.keep K208q sf0 C0.1)
        refine g_ldc X226 hx hZ0 hown0 (wd190 hw) (own_wS hw) hS0 (Nat.zero_le _) (own_EW hw) (by simp [EL]) f232.1 (vs := [(iv 116), (iv 114)]) (z := (2 : Int32)) ⟨by decide, by decide⟩ (by decide) (by decide) (n := 8) (by decide) (by decide) (by decide) (by decide) e226 (hb hby d_jdk_43m32_71) (q := 73) rfl ?_
        intro b231 T231 h231 kk231 d231 k231 X231 e231 E231 hS231 hk231 hZ231 hown231 A231 Fc231 Fv231 V231 lta231 ltb231 R231 sn231
        have f233 := L6.keep K208q nin0
        have f234 := f233.ext E231
        have f235 := L7.keep K208q nin0
        have f236 := f235.ext E231
        have ne237 : aG ≠ b231 := (str_ne f234 Fv231 f236 V231 (by decide))
        refine g_acmp X231 hx (hb hby d_jdk_43m32_73) (q := 76) rfl rfl (same := false) (decide_eq_false fun q => ne237 (Value.ref.inj q)) (by decide) (by decide) ?_
        refine aLw X231 hx (hb hby d_jdk_43m32_76) (q := 78) rfl rfl rfl ?_
        have f239 := f232.trans R231
        refine g_ldc X231 hx hZ231 hown231 (wd191 hw) (own_wS hw) hS231 (Nat.le_trans hk231 (Nat.le_refl _)) (own_EW hw) (by simp [EL]) f239.1 (vs := [(iv 97), (iv 122)]) (z := (2 : Int32)) ⟨by decide, by decide⟩ (by decide) (by decide) (n := 8) (by decide) (by decide) (by decide) (by decide) e231 (hb hby d_jdk_43m32_78) (q := 80) rfl ?_
        intro b238 T238 h238 kk238 d238 k238 X238 e238 E238 hS238 hk238 hZ238 hown238 A238 Fc238 Fv238 V238 lta238 ltb238 R238 sn238
        have f240 := f234.ext E238
        have f241 := f236.ext E238
        have ne242 : aG ≠ b238 := (str_ne f240 Fv238 f241 V238 (by decide))
        refine g_acmp X238 hx (hb hby d_jdk_43m32_80) (q := 83) rfl rfl (same := false) (decide_eq_false fun q => ne242 (Value.ref.inj q)) (by decide) (by decide) ?_
        refine aLw X238 hx (hb hby d_jdk_43m32_83) (q := 85) rfl rfl rfl ?_
        have f244 := f239.trans R238
        refine g_ldc X238 hx hZ238 hown238 (wd192 hw) (own_wS hw) hS238 (Nat.le_trans hk238 (Nat.le_refl _)) (own_EW hw) (by simp [EL]) f244.1 (vs := [(iv 108), (iv 116)]) (z := (2 : Int32)) ⟨by decide, by decide⟩ (by decide) (by decide) (n := 8) (by decide) (by decide) (by decide) (by decide) e238 (hb hby d_jdk_43m32_85) (q := 87) rfl ?_
        intro b243 T243 h243 kk243 d243 k243 X243 e243 E243 hS243 hk243 hZ243 hown243 A243 Fc243 Fv243 V243 lta243 ltb243 R243 sn243
        have f245 := f240.ext E243
        have f246 := f241.ext E243
        have ne247 : aG ≠ b243 := (str_ne f245 Fv243 f246 V243 (by decide))
        refine g_acmp X243 hx (hb hby d_jdk_43m32_87) (q := 99) rfl rfl (same := false) (decide_eq_false fun q => ne247 (Value.ref.inj q)) (by decide) (by decide) ?_
        refine iLw X243 hx (hb hby d_jdk_43m32_99) (q := 101) rfl rfl ?_
        refine g_newE X243 hx hZ243 (aty := .byte) (wd36 hw) (on_nn hnB) (n := n) (on_clamp hnB) (by omega) (by decide) (Nat.le_trans (show 36 + n ≤ 41 from by omega) (by decide)) (ad := "[B") (by decide) e243 (hb hby d_jdk_43m32_101) (q := 103) rfl ?_
        intro T248 h248 k248 b248 g248 X248q e248 E248 V248 G248
        have X248 := X248q.more (Nat.le_refl _) (show 36 + n ≤ 41 from by omega)
        have sf249 : Safe Z EL T243.vm h243 b248 := Safe.new (Nat.le_of_eq g248.symm)
        show Go _ _ _ _ (T248.setTop (mkF m 103 #[.val (.ref a1), .val (.ref t), .val (.ref aR), .val (.int (Int32.ofNat i208)), .val (.int (Int32.ofNat n)), .val (.ref aG), .unset, .unset, .unset] [(.ref b248)]))
        refine sAw X248 hx (hb hby d_jdk_43m32_103) (q := 105) rfl rfl (Ls' := #[.val (.ref a1), .val (.ref t), .val (.ref aR), .val (.int (Int32.ofNat i208)), .val (.int (Int32.ofNat n)), .val (.ref aG), .val (.ref b248), .unset, .unset]) rfl ?_
        refine aL X248 hx (hb hby d_jdk_43m32_105) (q := 106) rfl rfl rfl ?_
        refine cI X248 hx (hb hby d_jdk_43m32_106) (q := 107) rfl (z := (0 : Int32)) rfl ?_
        refine aLw X248 hx (hb hby d_jdk_43m32_107) (q := 109) rfl rfl rfl ?_
        refine cI X248 hx (hb hby d_jdk_43m32_109) (q := 110) rfl (z := (0 : Int32)) rfl ?_
        refine iL X248 hx (hb hby d_jdk_43m32_110) (q := 111) rfl rfl ?_
        have f251 := f217.ext E231
        have f252 := f251.ext E238
        have f253 := f252.ext E243
        have gz250 : Z.heap.size ≤ b248 := Nat.le_trans f253.2.1 (Nat.le_of_eq g248.symm)
        have f255 := f215.ext E231
        have f256 := f255.ext E238
        have f257 := f256.ext E243
        have f258 := f257.ext E248
        have f259 := f244.trans R243
        have f260 := f259.trans (CHr.ext E248 f259.1)
        have f261 := Safe.ext E248 f259.1 sf249
        refine g_cp X248 hx hZ243 hown243 (wd193 hw) (wd146 hw) (wd144 hw) (wd145 hw) (us := (sub (cs.map lo8V) 0 i208 (.int 0))) f258 V248 (Or.inl ⟨rfl, rfl⟩) (by decide) (by decide) (on_nn nb208) (by rw [on_clamp nb208, on_clamp hnB]; show 0 + i208 ≤ n; omega) (by rw [on_clamp nb208, on_clamp hnB]; show 0 + i208 ≤ n; omega) (by rw [on_clamp nb208]; rfl) (by rw [on_clamp nb208, List.length_replicate]; show 0 + i208 ≤ n; omega) N226 gz250 (by rw [hml]; rfl) (by decide) (W := 0) (Nat.le_of_eq rfl) (by decide) e248 (hb hby d_jdk_43m32_111) (q := 114) rfl ?_
        intro T254 h254 L254 X254 e254 N254 K254q V254
        have Va254 : Arv Z h254 b248 k248 .byte (Int32.ofNat n) (ins (List.replicate n (.int 0)) (sub (cs.map lo8V) 0 i208 (.int 0)) 0 i208) (.int 0) := by have q := V254; rw [on_clamp nb208] at q; exact q
        show Go _ _ _ _ (T254.setTop (mkF m 114 #[.val (.ref a1), .val (.ref t), .val (.ref aR), .val (.int (Int32.ofNat i208)), .val (.int (Int32.ofNat n)), .val (.ref aG), .val (.ref b248), .unset, .unset] []))
        refine iL X254 hx (hb hby d_jdk_43m32_114) (q := 115) rfl rfl ?_
        refine sIw X254 hx (hb hby d_jdk_43m32_115) (q := 117) rfl (Ls' := #[.val (.ref a1), .val (.ref t), .val (.ref aR), .val (.int (Int32.ofNat i208)), .val (.int (Int32.ofNat n)), .val (.ref aG), .val (.ref b248), .val (.int (Int32.ofNat i208)), .unset]) rfl ?_
        have lp262 : ∀ (k262 i262 : Nat) (T262 : State) (h262 : Heap) (L262 : List Loc) (R2 : List Value) (sl262_8 : Slot), i262 + k262 = n → Stand p l e ({ frames := 2, cells := 8, slots := 45, locals := 31 } : Room) (s.setVm T243.vm) m #[(.ref a1), (.ref t), (.ref aR)] below meth c T262 L262 7 41 → T262.heap = h262 → Keep h254 h262 [b248] → Fr Z.heap.size L262 → (Arv Z h262 b248 k248 .byte (Int32.ofNat n) R2 (.int 0)) → (sl262_8 = .unset ∨ ∃ x : Int32, sl262_8 = .val (.int x)) → (R2.length = n) → (∀ j, j < i262 → R2.getD j (.int 0) = lo8W (cs.getD j 0)) → Go p.tables e below (SEnd Z EL s (Q_tlc Z zC vF aI aR a1 t kb cs n aB aG aV kG gL h0) ({ frames := 2, cells := 8, slots := 45, locals := 31 } : Room).cells ({ frames := 2, cells := 8, slots := 45, locals := 31 } : Room).slots) (T262.setTop (mkF m 117 #[.val (.ref a1), .val (.ref t), .val (.ref aR), .val (.int (Int32.ofNat i208)), .val (.int (Int32.ofNat n)), .val (.ref aG), .val (.ref b248), .val (.int (Int32.ofNat i262)), sl262_8] [])) := by
          intro k262
          induction k262 with
          | zero =>
            intro i262 T262 h262 L262 R2 sl262_8 hk262 X262 e262 K262q N262 f262_0 hs262_8 ln2 iv2
            have hi262 : i262 = n := by omega
            have nb262 : i262 < 2147483648 := by omega
            have hz262 : ¬ (Int32.ofNat i262 < Int32.ofNat n) := by rw [hi262]; exact lt_irr
            have hw262 : Int32.ofNat i262 = Int32.ofNat n := by rw [hi262]
            show Go _ _ _ _ (T262.setTop (mkF m 117 #[.val (.ref a1), .val (.ref t), .val (.ref aR), .val (.int (Int32.ofNat i208)), .val (.int (Int32.ofNat n)), .val (.ref aG), .val (.ref b248), .val (.int (Int32.ofNat i262)), sl262_8] []))
            refine iLw X262 hx (hb hby d_jdk_43m32_117) (q := 119) rfl rfl ?_
            refine iLw X262 hx (hb hby d_jdk_43m32_119) (q := 121) rfl rfl ?_
            refine icY X262 hx (hb hby d_jdk_43m32_121) (q := 175) (by decide) (by decide) (flt hz262).2.1 ?_
            refine g_new X262 hx hZ243 hown243 (wd131 hw) (wd19 hw) (wd20 hw) (by decide) (by decide) e262 (hb hby d_jdk_43m32_175) (q := 178) rfl ?_
            intro T263 h263 b263 g263 X263 e263 E263 A263 D263
            have sf264 : Safe Z EL T243.vm h262 b263 := Safe.new (Nat.le_of_eq g263.symm)
            have F263_44 := D263 (Or.inr (wd44 hw)) (ty := .byte) (by decide)
            have F263_46 := D263 (Or.inr (wd46 hw)) (ty := (.array .byte)) (by decide)
            refine g_dup X263 hx (hb hby d_jdk_43m32_178) (q := 179) rfl rfl ?_
            refine aLw X263 hx (hb hby d_jdk_43m32_179) (q := 181) rfl rfl rfl ?_
            refine cI X263 hx (hb hby d_jdk_43m32_181) (q := 182) rfl (z := (0 : Int32)) rfl ?_
            have f271 := f253.ext E248
            have f272 := f271.keep K254q (allS gz250 all0)
            have f273 := f272.keep K262q (allS gz250 all0)
            have gz270 : Z.heap.size ≤ b263 := Nat.le_trans f273.2.1 (Nat.le_of_eq g263.symm)
            have f274 := f273.ext E263
            have f275 := f260.trans (CHr.keep K254q (sfS f261 sf0) f260.1)
            have f276 := Safe.keep K254q (sfS f261 sf0) f260.1 f261
            have f277 := f275.trans (CHr.keep K262q (sfS f276 sf0) f275.1)
            have f278 := Safe.ext E263 f277.1 sf264
            refine g_sp X263 hx hZ243 hown243 (wd147 hw) (wd148 hw) (wd149 hw) rfl (by decide) e263 (Con.back (W := 1) (rm_newbb l Z a0 hw zC SC PC vF rF SF aI SI aR SR b263 b248 h263 f274 A263 F263_46 F263_44 gz270) hZ243 (wd149 hw) (wd20 hw) (by decide) (by decide)) (by rw [hml]; rfl) (lenOf pd8 rfl) rfl (Nat.le_of_eq rfl) (hb hby d_jdk_43m32_182) (q := 185) rfl (by decide) (by decide) ?_
            intro v269 T269 L269 X269 Q269
            obtain ⟨rfl, Nq269, K269q, q269_0, q269_1, q269_2⟩ := Q269
            have N269 := Fr.app N262 Nq269
            show Go _ _ _ _ (T269.setTop (mkF m 185 #[.val (.ref a1), .val (.ref t), .val (.ref aR), .val (.int (Int32.ofNat i208)), .val (.int (Int32.ofNat n)), .val (.ref aG), .val (.ref b248), .val (.int (Int32.ofNat i262)), sl262_8] [(.ref b263)]))
            have K279 : Keep h0 h208 [] := (Keep.refl h0 []).trans K208q all0
            have K280 : Keep h0 h231 [] := K279.ext E231
            have K281 : Keep h0 h238 [] := K280.ext E238
            have K282 : Keep h0 h243 [] := K281.ext E243
            have K283 : Keep h0 h248 [] := K282.ext E248
            have le285 := K208q.1
            have le286 := (Nat.le_trans le285 E231.1)
            have le287 := (Nat.le_trans le286 E238.1)
            have le288 := (Nat.le_trans le287 E243.1)
            have gh284 : h0.size ≤ b248 := Nat.le_trans le288 (Nat.le_of_eq g248.symm)
            have K289 : Keep h0 h254 [] := K283.trans K254q (allS (Or.inr gh284) all0)
            have K290 : Keep h0 h262 [] := K289.trans K262q (allS (Or.inr gh284) all0)
            have K291 : Keep h0 h263 [] := K290.ext E263
            have le293 := (Nat.le_trans le288 E248.1)
            have le294 := (Nat.le_trans le293 K254q.1)
            have le295 := (Nat.le_trans le294 K262q.1)
            have gh292 : h0.size ≤ b263 := Nat.le_trans le295 (Nat.le_of_eq g263.symm)
            have K296 : Keep h0 T269.heap [] := K291.trans K269q (allS (Or.inr gh292) all0)
            have f297 := f262_0.ext E263
            have le298 := K254q.1
            have le299 := (Nat.le_trans le298 K262q.1)
            have ne300 : b248 ≠ b263 := (Nat.ne_of_lt (Nat.lt_of_lt_of_le (Nat.lt_of_lt_of_le V248.lt le299) (Nat.le_of_eq g263.symm)))
            have f301 := f297.keep K269q (ninS ne300 nin0)
            have le302 := E248.1
            have le303 := (Nat.le_trans le302 K254q.1)
            have le304 := (Nat.le_trans le303 K262q.1)
            have le305 := (Nat.le_trans le304 E263.1)
            have le306 := (Nat.le_trans le305 K269q.1)
            have f307 := f277.trans (CHr.ext E263 f277.1)
            have f308 := f307.trans (CHr.keep K269q (sfS f278 sf0) f307.1)
            refine endC X269 hlk hS243 (Nat.le_trans hk243 le306) hZ243 (own_EW hw) f308 (fun h => by rw [hret] at h; cases h) (lastA X269 hx hret rfl rfl rfl (hb hby d_jdk_43m32_185)) ?_ (by decide) (by decide)
            exact ⟨b263, b248, k248, rfl, N269, K296, q269_0, q269_1, q269_2, (by rw [← list_eq ln2 Hn (fun j hj => iv2 j (by omega))]; exact f301)⟩
          | succ k262 ih =>
            intro i262 T262 h262 L262 R2 sl262_8 hk262 X262 e262 K262q N262 f262_0 hs262_8 ln2 iv2
            have hi262 : i262 < n := by omega
            have nb262 : i262 < 2147483648 := by omega
            obtain ⟨y262, hy262⟩ : ∃ y, y = cs.getD i262 0 := ⟨_, rfl⟩
            have g262 : (cs.map lo8V).getD i262 (.int 0) = .int (StrChars.lo8 y262) := by rw [hy262]; exact map_getD Hn hi262
            have r262 := rng_at Hr Hn hi262 hy262
            have ll262 : i262 < R2.length := by omega
            show Go _ _ _ _ (T262.setTop (mkF m 117 #[.val (.ref a1), .val (.ref t), .val (.ref aR), .val (.int (Int32.ofNat i208)), .val (.int (Int32.ofNat n)), .val (.ref aG), .val (.ref b248), .val (.int (Int32.ofNat i262)), sl262_8] []))
            refine iLw X262 hx (hb hby d_jdk_43m32_117) (q := 119) rfl rfl ?_
            refine iLw X262 hx (hb hby d_jdk_43m32_119) (q := 121) rfl rfl ?_
            refine icN X262 hx (hb hby d_jdk_43m32_121) (q := 124) rfl (tlt (on_lt hi262 hnB)).2.1 ?_
            refine aL X262 hx (hb hby d_jdk_43m32_124) (q := 125) rfl rfl rfl ?_
            refine iLw X262 hx (hb hby d_jdk_43m32_125) (q := 127) rfl rfl ?_
            have le309 := K208q.1
            have le310 := (Nat.le_trans le309 E231.1)
            have le311 := (Nat.le_trans le310 E238.1)
            have le312 := (Nat.le_trans le311 E243.1)
            have ne313 : t ≠ b248 := (Nat.ne_of_lt (Nat.lt_of_lt_of_le (Nat.lt_of_lt_of_le PB.lt le312) (Nat.le_of_eq g248.symm)))
            have f314 := f258.keep K254q (ninS ne313 nin0)
            have f315 := f314.keep K262q (ninS ne313 nin0)
            refine g_ldB X262 hx hZ243 f315 (i := i262) (on_clamp nb262) (on_nn nb262) (on_lt hi262 hnB) (v := (.int (StrChars.lo8 y262))) g262 e262 (hb hby d_jdk_43m32_127) (q := 128) rfl ?_
            refine pI X262 hx (hb hby d_jdk_43m32_128) (q := 131) rfl (z := (255 : Int32)) rfl ?_
            refine g_iand X262 hx (hb hby d_jdk_43m32_131) (q := 132) rfl (z := y262) (back8 r262.1 r262.2) ?_
            refine sIw X262 hx (hb hby d_jdk_43m32_132) (q := 134) rfl (Ls' := #[.val (.ref a1), .val (.ref t), .val (.ref aR), .val (.int (Int32.ofNat i208)), .val (.int (Int32.ofNat n)), .val (.ref aG), .val (.ref b248), .val (.int (Int32.ofNat i262)), .val (.int y262)]) (by rcases hs262_8 with rfl | ⟨_, rfl⟩ <;> rfl) ?_
            have f317 := f253.ext E248
            have f318 := f317.keep K254q (allS gz250 all0)
            have f319 := f318.keep K262q (allS gz250 all0)
            refine g_getS X262 hx hZ243 hown243 (host := "") (Or.inl (wd151 hw)) Via.refl (SI.ext f319.2) e262 (hb hby d_jdk_43m32_134) (q := 137) rfl ?_
            intro T316 X316 e316
            refine iLw X316 hx (hb hby d_jdk_43m32_137) (q := 139) rfl rfl ?_
            have f321 := f219.ext E231
            have f322 := f321.ext E238
            have f323 := f322.ext E243
            have f324 := f323.ext E248
            have f325 := f324.keep K254q
            have f326 := f325.keep K262q
            refine g_vi X316 hx hZ243 hown243 (wd153 hw) (wd154 hw) (notFace_of_selects (args := #[]) (mvT hZ243 (wd156 hw))) (wd156 hw) (wd155 hw) (by decide) f326 e316 (Con.back (W := 0) (rm_cdl l Z a0 hw zC SC PC vF rF SF aI SI aR SR aI y262 h262 f319 r262.1 r262.2) hZ243 (wd157 hw) (wd152 hw) (by decide) (by decide)) (by rw [hml]; rfl) (lenOf pd14 rfl) rfl (Nat.le_of_eq rfl) (hb hby d_jdk_43m32_139) (q := 142) rfl (by decide) (by decide) ?_
            intro v320 T320 L320 X320 Q320
            obtain ⟨rfl, Nq320, e320⟩ := Q320
            have N320 := Fr.app N262 Nq320
            show Go _ _ _ _ (T320.setTop (mkF m 142 #[.val (.ref a1), .val (.ref t), .val (.ref aR), .val (.int (Int32.ofNat i208)), .val (.int (Int32.ofNat n)), .val (.ref aG), .val (.ref b248), .val (.int (Int32.ofNat i262)), .val (.int y262)] [(.int (low y262))]))
            refine sIw X320 hx (hb hby d_jdk_43m32_142) (q := 144) rfl (Ls' := #[.val (.ref a1), .val (.ref t), .val (.ref aR), .val (.int (Int32.ofNat i208)), .val (.int (Int32.ofNat n)), .val (.ref aG), .val (.ref b248), .val (.int (Int32.ofNat i262)), .val (.int (low y262))]) rfl ?_
            refine iLw X320 hx (hb hby d_jdk_43m32_144) (q := 146) rfl rfl ?_
            refine g_st X320 hx hZ243 hown243 (wd80 hw) (wd81 hw) (wd78 hw) (wd82 hw) (by decide) e320 (Con.back (W := 0) (rm_cei l Z a0 hw zC SC PC vF rF SF aI SI aR SR (low y262) h262 f319 (low_rng r262.1 r262.2).1 (low_rng r262.1 r262.2).2) hZ243 (wd82 hw) (wd78 hw) (by decide) (by decide)) (by rw [hml]; rfl) (lenOf pd1 rfl) rfl (Nat.le_of_eq rfl) (hb hby d_jdk_43m32_146) (q := 149) rfl (by decide) (by decide) ?_
            intro v327 T327 L327 X327 Q327
            obtain ⟨rfl, Nq327, e327⟩ := Q327
            have N327 := Fr.app N320 Nq327
            show Go _ _ _ _ (T327.setTop (mkF m 149 #[.val (.ref a1), .val (.ref t), .val (.ref aR), .val (.int (Int32.ofNat i208)), .val (.int (Int32.ofNat n)), .val (.ref aG), .val (.ref b248), .val (.int (Int32.ofNat i262)), .val (.int (low y262))] [(iv 1)]))
            refine ifY X327 hx (hb hby d_jdk_43m32_149) (q := 161) (by decide) (by decide) (by decide) ?_
            refine aLw X327 hx (hb hby d_jdk_43m32_161) (q := 163) rfl rfl rfl ?_
            refine iLw X327 hx (hb hby d_jdk_43m32_163) (q := 165) rfl rfl ?_
            refine iLw X327 hx (hb hby d_jdk_43m32_165) (q := 167) rfl rfl ?_
            refine g_i2b X327 hx (hb hby d_jdk_43m32_167) (q := 168) rfl (z := (StrChars.lo8 (low y262))) rfl ?_
            have f329 := f260.trans (CHr.keep K254q (sfS f261 sf0) f260.1)
            have f330 := Safe.keep K254q (sfS f261 sf0) f260.1 f261
            have f331 := f329.trans (CHr.keep K262q (sfS f330 sf0) f329.1)
            have f332 := Safe.keep K262q (sfS f330 sf0) f329.1 f330
            refine g_stB X327 hx hZ243 f262_0 (i := i262) (on_clamp nb262) (on_nn nb262) (on_lt hi262 hnB) ll262 (y := (StrChars.lo8 (low y262))) (lo8_nar _) e327 (hb hby d_jdk_43m32_168) (q := 169) rfl ?_
            intro T328 h328 X328 e328 W328 V328
            have N328 := Fr.snoc X328 N327 gz250
            refine g_iinc X328 hx (hb hby d_jdk_43m32_169) (q := 172) rfl rfl (z := (Int32.ofNat (i262 + 1))) (on_add (i262) 1) (Ls' := #[.val (.ref a1), .val (.ref t), .val (.ref aR), .val (.int (Int32.ofNat i208)), .val (.int (Int32.ofNat n)), .val (.ref aG), .val (.ref b248), .val (.int (Int32.ofNat (i262 + 1))), .val (.int (low y262))]) rfl ?_
            refine g_goto X328 hx (hb hby d_jdk_43m32_172) (q := 117) (by decide) (by decide) ?_
            have K334 := (Keep.refl h254 [b248]).trans K262q (allS (Or.inl (by simp)) all0)
            have K335 := K334.wr W328 (Or.inl (by simp))
            exact ih (i262 + 1) _ _ _ (R2.set i262 (.int (StrChars.lo8 (low y262)))) (.val (.int (low y262))) (by omega) X328 e328 K335 N328 V328 (Or.inr ⟨_, rfl⟩) (List.length_set.trans ln2) (set_step (P := fun j => lo8W (cs.getD j 0)) iv2 ln2 hi262 (by rw [hy262]; rfl))
        exact lp262 (n - i208) i208 _ _ _ (ins (List.replicate n (.int 0)) (sub (cs.map lo8V) 0 i208 (.int 0)) 0 i208) (.unset) (by omega) X254 e254 (Keep.refl _ _) N254 Va254 (Or.inl rfl) ((ins_len sub_len (by rw [List.length_replicate]; omega)).trans List.length_replicate) (ins_at Hn hi208 q1)
  exact lp208 (n - 0) 0 _ _ _ (.unset) (by omega) X0 e0 (Keep.refl _ _) N0 (Or.inl rfl) (fun _ q => absurd q (Nat.not_lt_zero _))
theorem d_jdk_42m109_0 : decode jdk_42_method_109_code 0 = .ok (.aload_n 0, 1) := by decide +kernel
theorem d_jdk_42m109_1 : decode jdk_42_method_109_code 1 = .ok (.invokevirtual 492, 3) := by decide +kernel
theorem d_jdk_42m109_4 : decode jdk_42_method_109_code 4 = .ok (.ifCond .eq 15, 3) := by decide +kernel
theorem d_jdk_42m109_7 : decode jdk_42_method_109_code 7 = .ok (.aload_n 0, 1) := by decide +kernel
theorem d_jdk_42m109_8 : decode jdk_42_method_109_code 8 = .ok (.aload_n 0, 1) := by decide +kernel
theorem d_jdk_42m109_9 : decode jdk_42_method_109_code 9 = .ok (.getfield 9, 3) := by decide +kernel
theorem d_jdk_42m109_12 : decode jdk_42_method_109_code 12 = .ok (.aload_n 1, 1) := by decide +kernel
theorem d_jdk_42m109_13 : decode jdk_42_method_109_code 13 = .ok (.invokestatic 839, 3) := by decide +kernel
theorem wd126 {a0 : Array Value} {Z : State} (hw : HW a0 Z) : ((Jvm.Cond.code ({ cls := "java/lang/StringLatin1", name := "toLowerCase", desc := "(Ljava/lang/String;[BLjava/util/Locale;)Ljava/lang/String;" } : Jvm.MethodName) jdk_43_method_32_code (9 : Nat) (Option.some (Jvm.ClassFile.FieldType.object "java/lang/String"))) : Jvm.Cond).before a0 Z = true := hw _ (List.mem_of_getElem? (i := 126) rfl)
theorem pd15 : parseMethodDescriptor "(Ljava/lang/String;[BLjava/util/Locale;)Ljava/lang/String;" = some ⟨[(.object "java/lang/String"), (.array .byte), (.object "java/util/Locale")], some (.object "java/lang/String")⟩ := by decide +kernel
theorem wd124 {a0 : Array Value} {Z : State} (hw : HW a0 Z) : ((Jvm.Cond.methodLink "java/lang/String" (839 : Nat) ({ cls := "java/lang/StringLatin1", name := "toLowerCase", desc := "(Ljava/lang/String;[BLjava/util/Locale;)Ljava/lang/String;" } : Jvm.MethodName)) : Jvm.Cond).before a0 Z = true := hw _ (List.mem_of_getElem? (i := 124) rfl)
theorem wd125 {a0 : Array Value} {Z : State} (hw : HW a0 Z) : ((Jvm.Cond.static ({ cls := "java/lang/StringLatin1", name := "toLowerCase", desc := "(Ljava/lang/String;[BLjava/util/Locale;)Ljava/lang/String;" } : Jvm.MethodName)) : Jvm.Cond).before a0 Z = true := hw _ (List.mem_of_getElem? (i := 125) rfl)
theorem d_jdk_42m109_16 : decode jdk_42_method_109_code 16 = .ok (.goto 12, 3) := by decide +kernel
theorem d_jdk_42m109_28 : decode jdk_42_method_109_code 28 = .ok (.areturn, 1) := by decide +kernel
def Q_slc (Z : State) (zC : Int32) (vF : Value) (aI : Addr) (aR : Addr) (a1 : Addr) (t : Addr) (kb : ClassId) (cs : List Int32) (n : Nat) (aB : Addr) (aG : Addr) (aV : Addr) (kG : ClassId) (gL : List Value) (h0 : Heap) (v : Option Value) (h : Heap) (L : List Loc) : Prop := ∃ (r : Addr), ∃ (ct : Addr), ∃ (kc : ClassId), v = some (.ref r) ∧ Fr Z.heap.size L ∧ Keep h0 h [] ∧ Exa Z h r sT0 ∧ Fld Z h r sT0 "coder" "B" (iv 0) ∧ Fld Z h r sT0 "value" "[B" (.ref ct) ∧ Arv Z h ct kc .byte (Int32.ofNat n) (cs.map lo8W) (.int 0)
theorem rm_slc (l : Launch) (Z : State) (a0 : Array Value) (hw : HW a0 Z) (zC : Int32) (SC : tSC Z zC) (PC : ¬ zC = (0 : Int32)) (vF : Value) (rF : vF = .null ∨ ∃ a, vF = .ref a) (SF : tSF Z vF) (aI : Addr) (SI : tSI Z aI) (aR : Addr) (SR : tSR Z aR) (a1 : Addr) (t : Addr) (kb : ClassId) (cs : List Int32) (n : Nat) (aB : Addr) (aG : Addr) (aV : Addr) (kG : ClassId) (gL : List Value) (h0 : Heap) (O0 : Old Z Z.heap.size h0) (Pe : Exa Z h0 a1 sT0) (Pc : Fld Z h0 a1 sT0 "coder" "B" (iv 0)) (Pv : Fld Z h0 a1 sT0 "value" "[B" (.ref t)) (PB : Arv Z h0 t kb .byte (Int32.ofNat n) (cs.map lo8V) (.int 0)) (Hn : (cs.length = n)) (Hm : (n ≤ 5)) (Hr : (∀ x ∈ cs, ¬ x < 0 ∧ ¬ (255 : Int32) < x)) (L1 : Exa Z h0 aR "java/util/Locale") (L2 : Fld Z h0 aR "java/util/Locale" "baseLocale" "Lsun/util/locale/BaseLocale;" (.ref aB)) (L3 : Exa Z h0 aB "sun/util/locale/BaseLocale") (L4 : Fld Z h0 aB "sun/util/locale/BaseLocale" "language" "Ljava/lang/String;" (.ref aG)) (L5 : Exa Z h0 aG sT0) (L6 : Fld Z h0 aG sT0 "value" "[B" (.ref aV)) (L7 : Arv Z h0 aV kG .byte (0 : Int32) gL (.int 0)) (L8 : Exa Z h0 aI "java/lang/CharacterDataLatin1") :
    ConS l Z EL (⟨sT0, "toLowerCase", "(Ljava/util/Locale;)Ljava/lang/String;"⟩ : MethodName) jdk_42_method_109_code 2 (some (.object sT0)) ({ frames := 3, cells := 8, slots := 45, locals := 51 } : Room) #[(.ref a1), (.ref aR)] h0 [] (Q_slc Z zC vF aI aR a1 t kb cs n aB aG aV kG gL h0) := by
  refine ConS.intro (plainFor_of_name pn3) ?_
  intro p e s m below meth c T0 v0 X0 hx hby hml hown0 hnm hret hlk hZ0 e0 hS0 C0 hsl0
  have N0 := Fr.nil Z.heap.size
  refine castGo (g' := mkF m 0 #[.val (.ref a1), .val (.ref aR)] []) (by first | rfl | (simp [entryFrame, mkF, argsToLocals, Value.category]; done)) ?_
  show Go _ _ _ _ (T0.setTop (mkF m 0 #[.val (.ref a1), .val (.ref aR)] []))
  refine aL X0 hx (hb hby d_jdk_42m109_0) (q := 1) rfl rfl rfl ?_
  refine g_vi X0 hx hZ0 hown0 (wd61 hw) (wd62 hw) (notFace_of_selects (args := #[]) (mvT hZ0 (wd64 hw))) (wd64 hw) (wd63 hw) (by decide) Pe e0 (Con.back (W := 0) (rm_isl0 l Z a0 hw zC SC PC vF rF SF aI SI aR SR a1 h0 O0 Pc) hZ0 (wd65 hw) (wd20 hw) (by decide) (by decide)) (by rw [hml]; rfl) (lenOf pd4 rfl) rfl (Nat.le_of_eq rfl) (hb hby d_jdk_42m109_1) (q := 4) rfl (by decide) (by decide) ?_
  intro v337 T337 L337 X337 Q337
  obtain ⟨rfl, Nq337, e337⟩ := Q337
  have N337 := Fr.app N0 Nq337
  show Go _ _ _ _ (T337.setTop (mkF m 4 #[.val (.ref a1), .val (.ref aR)] [(iv 1)]))
  refine ifN X337 hx (hb hby d_jdk_42m109_4) (q := 7) rfl (by decide) ?_
  refine aL X337 hx (hb hby d_jdk_42m109_7) (q := 8) rfl rfl rfl ?_
  refine aL X337 hx (hb hby d_jdk_42m109_8) (q := 9) rfl rfl rfl ?_
  refine g_getF X337 hx hZ0 hown0 (host := "") (Or.inl (wd45 hw)) Via.refl Pv e337 (hb hby d_jdk_42m109_9) (q := 12) rfl ?_
  intro T338 X338 e338
  refine aL X338 hx (hb hby d_jdk_42m109_12) (q := 13) rfl rfl rfl ?_
  refine g_stS X338 hx hZ0 hown0 hS0 (Nat.zero_le _) (wd124 hw) (wd125 hw) (wd78 hw) (wd126 hw) (by decide) e338 (ConS.back (W := 0) (rm_tlc l Z a0 hw zC SC PC vF rF SF aI SI aR SR a1 t kb cs n aB aG aV kG gL h0 O0 Pe Pc Pv PB Hn Hm Hr L1 L2 L3 L4 L5 L6 L7 L8) hZ0 (wd126 hw) (wd78 hw) (by decide) (by decide) (own_EW hw) C0.1 sf0 all0) (by rw [hml]; rfl) (lenOf pd15 rfl) rfl (Nat.le_of_eq rfl) (hb hby d_jdk_42m109_13) (q := 16) rfl (by decide) (by decide) ?_
  rintro v339 T339 L339 ⟨X339, hS339, hZ339, hown339, R339⟩ Q339
  obtain ⟨r_339, ct_339, kc_339, rfl, Nq339, K339q, q339_0, q339_1, q339_2, q339_3⟩ := Q339
  have N339 := Fr.app N337 Nq339
  show Go _ _ _ _ (T339.setTop (mkF m 16 #[.val (.ref a1), .val (.ref aR)] [(.ref r_339)]))
  refine g_goto X339 hx (hb hby d_jdk_42m109_16) (q := 28) (by decide) (by decide) ?_
  have K340 : Keep h0 T339.heap [] := (Keep.refl h0 []).trans K339q all0
  have f341 := C0.trans R339
  refine endC X339 hlk hS339 (Nat.le_trans (Nat.le_refl _) (Nat.le_refl _)) hZ339 (own_EW hw) f341 (fun h => by rw [hret] at h; cases h) (lastA X339 hx hret rfl rfl rfl (hb hby d_jdk_42m109_28)) ?_ (by decide) (by decide)
  exact ⟨r_339, ct_339, kc_339, rfl, N339, K340, q339_0, q339_1, q339_2, q339_3⟩
def ATP (c0 c1 c2 c3 c4 : Int32) (fi N : Int32) (vs : List Value) : Prop := ∀ k : Nat, Int32.ofNat k < N → k < 5 → ∃ (i : Nat) (y : Int32), fi = Int32.ofNat i ∧ i + k < 5 ∧ y = [c0, c1, c2, c3, c4].getD (i + k) 0 ∧ vs.getD k (.int 0) = .int (StrChars.lo8 (low y))
theorem fse3 (c0 c1 c2 c3 c4 : Int32) : fse c0 c1 c2 c3 c4 = 5 ∨ fse c0 c1 c2 c3 c4 = 0 ∨ ∃ e : Nat, (1 ≤ e ∧ e ≤ 4) ∧ fse c0 c1 c2 c3 c4 = Int32.ofNat e := by
  rcases fse_fin c0 c1 c2 c3 c4 with h | h | h | h | h | h
  · exact Or.inr (Or.inl h)
  · exact Or.inr (Or.inr ⟨1, by decide, h⟩)
  · exact Or.inr (Or.inr ⟨2, by decide, h⟩)
  · exact Or.inr (Or.inr ⟨3, by decide, h⟩)
  · exact Or.inr (Or.inr ⟨4, by decide, h⟩)
  · exact Or.inl h
theorem on14 {e : Nat} (h : 1 ≤ e ∧ e ≤ 4) : Int32.ofNat e = 1 ∨ Int32.ofNat e = 2 ∨ Int32.ofNat e = 3 ∨ Int32.ofNat e = 4 := by
  rcases (by omega : e = 1 ∨ e = 2 ∨ e = 3 ∨ e = 4) with rfl | rfl | rfl | rfl <;> decide
theorem ixf_mid {e : Nat} (h : 1 ≤ e ∧ e ≤ 4) : ixf (Int32.ofNat e) = Int32.ofNat e := by
  rcases (by omega : e = 1 ∨ e = 2 ∨ e = 3 ∨ e = 4) with rfl | rfl | rfl | rfl <;> decide
theorem fso_is {c0 c1 c2 c3 c4 : Int32} {e i : Nat} (he : e ≤ 5) (hi : i ≤ e) (h1 : ∀ k, k < i → ¬ (32 : Int32) < [c0, c1, c2, c3, c4].getD k 0) (h2 : i = e ∨ (32 : Int32) < [c0, c1, c2, c3, c4].getD i 0) : fso c0 c1 c2 c3 c4 (Int32.ofNat e) = Int32.ofNat i := by
  rcases (by omega : i = e ∨ i < e) with q | q
  · subst q
    rcases (by omega : i = 0 ∨ i = 1 ∨ i = 2 ∨ i = 3 ∨ i = 4 ∨ i = 5) with rfl | rfl | rfl | rfl | rfl | rfl
    · exact (if_neg (show ¬ ((0 : Int32) < Int32.ofNat 0 ∧ (32 : Int32) < c0) from fun q => absurd q.1 (by decide))).trans ((if_neg (show ¬ ((1 : Int32) < Int32.ofNat 0 ∧ (32 : Int32) < c1) from fun q => absurd q.1 (by decide))).trans ((if_neg (show ¬ ((2 : Int32) < Int32.ofNat 0 ∧ (32 : Int32) < c2) from fun q => absurd q.1 (by decide))).trans ((if_neg (show ¬ ((3 : Int32) < Int32.ofNat 0 ∧ (32 : Int32) < c3) from fun q => absurd q.1 (by decide))).trans ((if_neg (show ¬ ((4 : Int32) < Int32.ofNat 0 ∧ (32 : Int32) < c4) from fun q => absurd q.1 (by decide)))))))
    · exact (if_neg (show ¬ ((0 : Int32) < Int32.ofNat 1 ∧ (32 : Int32) < c0) from fun q => h1 0 (by decide) q.2)).trans ((if_neg (show ¬ ((1 : Int32) < Int32.ofNat 1 ∧ (32 : Int32) < c1) from fun q => absurd q.1 (by decide))).trans ((if_neg (show ¬ ((2 : Int32) < Int32.ofNat 1 ∧ (32 : Int32) < c2) from fun q => absurd q.1 (by decide))).trans ((if_neg (show ¬ ((3 : Int32) < Int32.ofNat 1 ∧ (32 : Int32) < c3) from fun q => absurd q.1 (by decide))).trans ((if_neg (show ¬ ((4 : Int32) < Int32.ofNat 1 ∧ (32 : Int32) < c4) from fun q => absurd q.1 (by decide)))))))
    · exact (if_neg (show ¬ ((0 : Int32) < Int32.ofNat 2 ∧ (32 : Int32) < c0) from fun q => h1 0 (by decide) q.2)).trans ((if_neg (show ¬ ((1 : Int32) < Int32.ofNat 2 ∧ (32 : Int32) < c1) from fun q => h1 1 (by decide) q.2)).trans ((if_neg (show ¬ ((2 : Int32) < Int32.ofNat 2 ∧ (32 : Int32) < c2) from fun q => absurd q.1 (by decide))).trans ((if_neg (show ¬ ((3 : Int32) < Int32.ofNat 2 ∧ (32 : Int32) < c3) from fun q => absurd q.1 (by decide))).trans ((if_neg (show ¬ ((4 : Int32) < Int32.ofNat 2 ∧ (32 : Int32) < c4) from fun q => absurd q.1 (by decide)))))))
    · exact (if_neg (show ¬ ((0 : Int32) < Int32.ofNat 3 ∧ (32 : Int32) < c0) from fun q => h1 0 (by decide) q.2)).trans ((if_neg (show ¬ ((1 : Int32) < Int32.ofNat 3 ∧ (32 : Int32) < c1) from fun q => h1 1 (by decide) q.2)).trans ((if_neg (show ¬ ((2 : Int32) < Int32.ofNat 3 ∧ (32 : Int32) < c2) from fun q => h1 2 (by decide) q.2)).trans ((if_neg (show ¬ ((3 : Int32) < Int32.ofNat 3 ∧ (32 : Int32) < c3) from fun q => absurd q.1 (by decide))).trans ((if_neg (show ¬ ((4 : Int32) < Int32.ofNat 3 ∧ (32 : Int32) < c4) from fun q => absurd q.1 (by decide)))))))
    · exact (if_neg (show ¬ ((0 : Int32) < Int32.ofNat 4 ∧ (32 : Int32) < c0) from fun q => h1 0 (by decide) q.2)).trans ((if_neg (show ¬ ((1 : Int32) < Int32.ofNat 4 ∧ (32 : Int32) < c1) from fun q => h1 1 (by decide) q.2)).trans ((if_neg (show ¬ ((2 : Int32) < Int32.ofNat 4 ∧ (32 : Int32) < c2) from fun q => h1 2 (by decide) q.2)).trans ((if_neg (show ¬ ((3 : Int32) < Int32.ofNat 4 ∧ (32 : Int32) < c3) from fun q => h1 3 (by decide) q.2)).trans ((if_neg (show ¬ ((4 : Int32) < Int32.ofNat 4 ∧ (32 : Int32) < c4) from fun q => absurd q.1 (by decide)))))))
    · exact (if_neg (show ¬ ((0 : Int32) < Int32.ofNat 5 ∧ (32 : Int32) < c0) from fun q => h1 0 (by decide) q.2)).trans ((if_neg (show ¬ ((1 : Int32) < Int32.ofNat 5 ∧ (32 : Int32) < c1) from fun q => h1 1 (by decide) q.2)).trans ((if_neg (show ¬ ((2 : Int32) < Int32.ofNat 5 ∧ (32 : Int32) < c2) from fun q => h1 2 (by decide) q.2)).trans ((if_neg (show ¬ ((3 : Int32) < Int32.ofNat 5 ∧ (32 : Int32) < c3) from fun q => h1 3 (by decide) q.2)).trans ((if_neg (show ¬ ((4 : Int32) < Int32.ofNat 5 ∧ (32 : Int32) < c4) from fun q => h1 4 (by decide) q.2))))))
  · have h3 : (32 : Int32) < [c0, c1, c2, c3, c4].getD i 0 := h2.elim (fun z => absurd z (by omega)) id
    rcases (by omega : i = 0 ∨ i = 1 ∨ i = 2 ∨ i = 3 ∨ i = 4) with rfl | rfl | rfl | rfl | rfl
    · exact (if_pos (show (0 : Int32) < Int32.ofNat e ∧ (32 : Int32) < c0 from ⟨on_lt (i := 0) (by omega) (by omega), h3⟩))
    · exact (if_neg (show ¬ ((0 : Int32) < Int32.ofNat e ∧ (32 : Int32) < c0) from fun q => h1 0 (by decide) q.2)).trans ((if_pos (show (1 : Int32) < Int32.ofNat e ∧ (32 : Int32) < c1 from ⟨on_lt (i := 1) (by omega) (by omega), h3⟩)))
    · exact (if_neg (show ¬ ((0 : Int32) < Int32.ofNat e ∧ (32 : Int32) < c0) from fun q => h1 0 (by decide) q.2)).trans ((if_neg (show ¬ ((1 : Int32) < Int32.ofNat e ∧ (32 : Int32) < c1) from fun q => h1 1 (by decide) q.2)).trans ((if_pos (show (2 : Int32) < Int32.ofNat e ∧ (32 : Int32) < c2 from ⟨on_lt (i := 2) (by omega) (by omega), h3⟩))))
    · exact (if_neg (show ¬ ((0 : Int32) < Int32.ofNat e ∧ (32 : Int32) < c0) from fun q => h1 0 (by decide) q.2)).trans ((if_neg (show ¬ ((1 : Int32) < Int32.ofNat e ∧ (32 : Int32) < c1) from fun q => h1 1 (by decide) q.2)).trans ((if_neg (show ¬ ((2 : Int32) < Int32.ofNat e ∧ (32 : Int32) < c2) from fun q => h1 2 (by decide) q.2)).trans ((if_pos (show (3 : Int32) < Int32.ofNat e ∧ (32 : Int32) < c3 from ⟨on_lt (i := 3) (by omega) (by omega), h3⟩)))))
    · exact (if_neg (show ¬ ((0 : Int32) < Int32.ofNat e ∧ (32 : Int32) < c0) from fun q => h1 0 (by decide) q.2)).trans ((if_neg (show ¬ ((1 : Int32) < Int32.ofNat e ∧ (32 : Int32) < c1) from fun q => h1 1 (by decide) q.2)).trans ((if_neg (show ¬ ((2 : Int32) < Int32.ofNat e ∧ (32 : Int32) < c2) from fun q => h1 2 (by decide) q.2)).trans ((if_neg (show ¬ ((3 : Int32) < Int32.ofNat e ∧ (32 : Int32) < c3) from fun q => h1 3 (by decide) q.2)).trans ((if_pos (show (4 : Int32) < Int32.ofNat e ∧ (32 : Int32) < c4 from ⟨on_lt (i := 4) (by omega) (by omega), h3⟩))))))
theorem lse_is {c0 c1 c2 c3 c4 : Int32} {e j : Nat} (he : e ≤ 5) (hj : j ≤ e) (h1 : ∀ k, j ≤ k → k < e → ¬ (32 : Int32) < [c0, c1, c2, c3, c4].getD k 0) (h2 : j = 0 ∨ (32 : Int32) < [c0, c1, c2, c3, c4].getD (j - 1) 0) : lse c0 c1 c2 c3 c4 (Int32.ofNat e) = Int32.ofNat j := by
  rcases (by omega : j = 0 ∨ j = 1 ∨ j = 2 ∨ j = 3 ∨ j = 4 ∨ j = 5) with rfl | rfl | rfl | rfl | rfl | rfl
  · exact (if_neg (show ¬ ((4 : Int32) < Int32.ofNat e ∧ (32 : Int32) < c4) from fun q => h1 4 (by decide) (on_ltr (i := 4) (by decide) (by omega) q.1) q.2)).trans ((if_neg (show ¬ ((3 : Int32) < Int32.ofNat e ∧ (32 : Int32) < c3) from fun q => h1 3 (by decide) (on_ltr (i := 3) (by decide) (by omega) q.1) q.2)).trans ((if_neg (show ¬ ((2 : Int32) < Int32.ofNat e ∧ (32 : Int32) < c2) from fun q => h1 2 (by decide) (on_ltr (i := 2) (by decide) (by omega) q.1) q.2)).trans ((if_neg (show ¬ ((1 : Int32) < Int32.ofNat e ∧ (32 : Int32) < c1) from fun q => h1 1 (by decide) (on_ltr (i := 1) (by decide) (by omega) q.1) q.2)).trans ((if_neg (show ¬ ((0 : Int32) < Int32.ofNat e ∧ (32 : Int32) < c0) from fun q => h1 0 (by decide) (on_ltr (i := 0) (by decide) (by omega) q.1) q.2))))))
  · exact (if_neg (show ¬ ((4 : Int32) < Int32.ofNat e ∧ (32 : Int32) < c4) from fun q => h1 4 (by decide) (on_ltr (i := 4) (by decide) (by omega) q.1) q.2)).trans ((if_neg (show ¬ ((3 : Int32) < Int32.ofNat e ∧ (32 : Int32) < c3) from fun q => h1 3 (by decide) (on_ltr (i := 3) (by decide) (by omega) q.1) q.2)).trans ((if_neg (show ¬ ((2 : Int32) < Int32.ofNat e ∧ (32 : Int32) < c2) from fun q => h1 2 (by decide) (on_ltr (i := 2) (by decide) (by omega) q.1) q.2)).trans ((if_neg (show ¬ ((1 : Int32) < Int32.ofNat e ∧ (32 : Int32) < c1) from fun q => h1 1 (by decide) (on_ltr (i := 1) (by decide) (by omega) q.1) q.2)).trans ((if_pos (show (0 : Int32) < Int32.ofNat e ∧ (32 : Int32) < c0 from ⟨on_lt (i := 0) (by omega) (by omega), h2.elim (fun z => absurd z (by decide)) id⟩))))))
  · exact (if_neg (show ¬ ((4 : Int32) < Int32.ofNat e ∧ (32 : Int32) < c4) from fun q => h1 4 (by decide) (on_ltr (i := 4) (by decide) (by omega) q.1) q.2)).trans ((if_neg (show ¬ ((3 : Int32) < Int32.ofNat e ∧ (32 : Int32) < c3) from fun q => h1 3 (by decide) (on_ltr (i := 3) (by decide) (by omega) q.1) q.2)).trans ((if_neg (show ¬ ((2 : Int32) < Int32.ofNat e ∧ (32 : Int32) < c2) from fun q => h1 2 (by decide) (on_ltr (i := 2) (by decide) (by omega) q.1) q.2)).trans ((if_pos (show (1 : Int32) < Int32.ofNat e ∧ (32 : Int32) < c1 from ⟨on_lt (i := 1) (by omega) (by omega), h2.elim (fun z => absurd z (by decide)) id⟩)))))
  · exact (if_neg (show ¬ ((4 : Int32) < Int32.ofNat e ∧ (32 : Int32) < c4) from fun q => h1 4 (by decide) (on_ltr (i := 4) (by decide) (by omega) q.1) q.2)).trans ((if_neg (show ¬ ((3 : Int32) < Int32.ofNat e ∧ (32 : Int32) < c3) from fun q => h1 3 (by decide) (on_ltr (i := 3) (by decide) (by omega) q.1) q.2)).trans ((if_pos (show (2 : Int32) < Int32.ofNat e ∧ (32 : Int32) < c2 from ⟨on_lt (i := 2) (by omega) (by omega), h2.elim (fun z => absurd z (by decide)) id⟩))))
  · exact (if_neg (show ¬ ((4 : Int32) < Int32.ofNat e ∧ (32 : Int32) < c4) from fun q => h1 4 (by decide) (on_ltr (i := 4) (by decide) (by omega) q.1) q.2)).trans ((if_pos (show (3 : Int32) < Int32.ofNat e ∧ (32 : Int32) < c3 from ⟨on_lt (i := 3) (by omega) (by omega), h2.elim (fun z => absurd z (by decide)) id⟩)))
  · exact (if_pos (show (4 : Int32) < Int32.ofNat e ∧ (32 : Int32) < c4 from ⟨on_lt (i := 4) (by omega) (by omega), h2.elim (fun z => absurd z (by decide)) id⟩))
theorem tk_get {cs : List Int32} {e k : Nat} (h : k < e) : (List.take e cs).getD k 0 = cs.getD k 0 := by
  rw [List.getD_eq_getElem?_getD, List.getD_eq_getElem?_getD, List.getElem?_take_of_lt h]
theorem ess_ij {c0 c1 c2 c3 c4 : Int32} {e i m : Nat} (he : e ≤ 5) (T : TRM (List.take e (List.drop 0 [c0, c1, c2, c3, c4])) e i m) : fso c0 c1 c2 c3 c4 (Int32.ofNat e) = Int32.ofNat i ∧ imx 0 (lse c0 c1 c2 c3 c4 (Int32.ofNat e) - fso c0 c1 c2 c3 c4 (Int32.ofNat e)) = Int32.ofNat m := by
  obtain ⟨t1, t2, t3, t4⟩ := T
  rw [List.drop_zero] at t2 t3 t4
  have hs := fso_is (c0 := c0) (c1 := c1) (c2 := c2) (c3 := c3) (c4 := c4) he (show i ≤ e by omega) (fun k hk => by have := t2 k hk; rwa [tk_get (by omega)] at this) (by
    rcases t4 with q | q
    · exact Or.inl q.2
    · right; have := q.2.1; rwa [tk_get (by omega)] at this)
  refine ⟨hs, ?_⟩
  rcases t4 with ⟨q1, q2⟩ | ⟨q1, q2, q3⟩
  · subst q1 q2
    have hl := lse_is (c0 := c0) (c1 := c1) (c2 := c2) (c3 := c3) (c4 := c4) he (Nat.zero_le _) (fun k _ hk => by have := t2 k hk; rwa [tk_get (by omega)] at this) (Or.inl rfl)
    rw [hs, hl]
    rcases (by omega : i = 0 ∨ i = 1 ∨ i = 2 ∨ i = 3 ∨ i = 4 ∨ i = 5) with rfl | rfl | rfl | rfl | rfl | rfl <;> decide
  · have hl := lse_is (c0 := c0) (c1 := c1) (c2 := c2) (c3 := c3) (c4 := c4) (j := i + m) he (by omega) (fun k h1 hk => by have := t3 k h1 hk; rwa [tk_get (by omega)] at this) (Or.inr (by have := q3; rwa [tk_get (by omega)] at this))
    rw [hs, hl, on_sub (by omega) (by omega), show i + m - i = m by omega]
    unfold imx
    rw [if_pos (on_pos q1 (by omega))]
theorem ess_N {c0 c1 c2 c3 c4 : Int32} {e i m : Nat} (hE : fse c0 c1 c2 c3 c4 = Int32.ofNat e) (he : e ≤ 5) (T : TRM (List.take e (List.drop 0 [c0, c1, c2, c3, c4])) e i m) : imx 0 (lse c0 c1 c2 c3 c4 (fse c0 c1 c2 c3 c4) - fso c0 c1 c2 c3 c4 (fse c0 c1 c2 c3 c4)) = Int32.ofNat m := by
  rw [hE]; exact (ess_ij he T).2
theorem ess_at {c0 c1 c2 c3 c4 : Int32} {e i m : Nat} (hE : fse c0 c1 c2 c3 c4 = Int32.ofNat e) (he : e ≤ 5) (T : TRM (List.take e (List.drop 0 [c0, c1, c2, c3, c4])) e i m) :
    ATP c0 c1 c2 c3 c4 (fso c0 c1 c2 c3 c4 (fse c0 c1 c2 c3 c4)) (imx 0 (lse c0 c1 c2 c3 c4 (fse c0 c1 c2 c3 c4) - fso c0 c1 c2 c3 c4 (fse c0 c1 c2 c3 c4))) ((List.take m (List.drop i (List.take e (List.drop 0 [c0, c1, c2, c3, c4])))).map lo8W) := by
  intro k hk hk5
  rw [ess_N hE he T, Int32.lt_iff_toInt_lt, on_int (by omega), on_int (by have := T.1; omega)] at hk
  have hm : k < m := by omega
  have t1 := T.1
  refine ⟨i, _, by rw [hE]; exact (ess_ij he T).1, by omega, rfl, ?_⟩
  rw [map_getD (n := m) (td_len (n := e) (by simp; omega) T) hm]
  show Value.int (StrChars.lo8 (low _)) = _
  rw [tk_get hm, List.drop_zero]
  congr 3
  rw [List.getD_eq_getElem?_getD, List.getElem?_drop, List.getElem?_take_of_lt (by omega), ← List.getD_eq_getElem?_getD]
theorem d_prog_15m2_0 : decode prog_15_method_2_code 0 = .ok (.aload_n 0, 1) := by decide +kernel
theorem d_prog_15m2_1 : decode prog_15_method_2_code 1 = .ok (.bipush 59, 2) := by decide +kernel
theorem d_prog_15m2_3 : decode prog_15_method_2_code 3 = .ok (.invokevirtual 7, 3) := by decide +kernel
theorem wd55 {a0 : Array Value} {Z : State} (hw : HW a0 Z) : ((Jvm.Cond.code ({ cls := "java/lang/String", name := "indexOf", desc := "(I)I" } : Jvm.MethodName) jdk_42_method_79_code (2 : Nat) (Option.some Jvm.ClassFile.FieldType.int)) : Jvm.Cond).before a0 Z = true := hw _ (List.mem_of_getElem? (i := 55) rfl)
theorem wd54 {a0 : Array Value} {Z : State} (hw : HW a0 Z) : ((Jvm.Cond.selects "java/lang/String" ({ cls := "java/lang/String", name := "indexOf", desc := "(I)I" } : Jvm.MethodName) ({ cls := "java/lang/String", name := "indexOf", desc := "(I)I" } : Jvm.MethodName)) : Jvm.Cond).before a0 Z = true := hw _ (List.mem_of_getElem? (i := 54) rfl)
theorem wd51 {a0 : Array Value} {Z : State} (hw : HW a0 Z) : ((Jvm.Cond.methodLink "com/example/handoff/handoff/internal/MediaTypes" (7 : Nat) ({ cls := "java/lang/String", name := "indexOf", desc := "(I)I" } : Jvm.MethodName)) : Jvm.Cond).before a0 Z = true := hw _ (List.mem_of_getElem? (i := 51) rfl)
theorem wd52 {a0 : Array Value} {Z : State} (hw : HW a0 Z) : ((Jvm.Cond.declares ({ cls := "java/lang/String", name := "indexOf", desc := "(I)I" } : Jvm.MethodName)) : Jvm.Cond).before a0 Z = true := hw _ (List.mem_of_getElem? (i := 52) rfl)
theorem wd53 {a0 : Array Value} {Z : State} (hw : HW a0 Z) : ((Jvm.Cond.instanceMethod ({ cls := "java/lang/String", name := "indexOf", desc := "(I)I" } : Jvm.MethodName)) : Jvm.Cond).before a0 Z = true := hw _ (List.mem_of_getElem? (i := 53) rfl)
theorem d_prog_15m2_6 : decode prog_15_method_2_code 6 = .ok (.istore_n 1, 1) := by decide +kernel
theorem d_prog_15m2_7 : decode prog_15_method_2_code 7 = .ok (.iload_n 1, 1) := by decide +kernel
theorem d_prog_15m2_8 : decode prog_15_method_2_code 8 = .ok (.ifCond .ge 7, 3) := by decide +kernel
theorem d_prog_15m2_11 : decode prog_15_method_2_code 11 = .ok (.aload_n 0, 1) := by decide +kernel
theorem d_prog_15m2_12 : decode prog_15_method_2_code 12 = .ok (.goto 9, 3) := by decide +kernel
theorem d_prog_15m2_21 : decode prog_15_method_2_code 21 = .ok (.astore_n 2, 1) := by decide +kernel
theorem d_prog_15m2_22 : decode prog_15_method_2_code 22 = .ok (.aload_n 2, 1) := by decide +kernel
theorem d_prog_15m2_23 : decode prog_15_method_2_code 23 = .ok (.invokevirtual 17, 3) := by decide +kernel
theorem wd113 {a0 : Array Value} {Z : State} (hw : HW a0 Z) : ((Jvm.Cond.code ({ cls := "java/lang/String", name := "trim", desc := "()Ljava/lang/String;" } : Jvm.MethodName) jdk_42_method_113_code (2 : Nat) (Option.some (Jvm.ClassFile.FieldType.object "java/lang/String"))) : Jvm.Cond).before a0 Z = true := hw _ (List.mem_of_getElem? (i := 113) rfl)
theorem wd112 {a0 : Array Value} {Z : State} (hw : HW a0 Z) : ((Jvm.Cond.selects "java/lang/String" ({ cls := "java/lang/String", name := "trim", desc := "()Ljava/lang/String;" } : Jvm.MethodName) ({ cls := "java/lang/String", name := "trim", desc := "()Ljava/lang/String;" } : Jvm.MethodName)) : Jvm.Cond).before a0 Z = true := hw _ (List.mem_of_getElem? (i := 112) rfl)
theorem wd109 {a0 : Array Value} {Z : State} (hw : HW a0 Z) : ((Jvm.Cond.methodLink "com/example/handoff/handoff/internal/MediaTypes" (17 : Nat) ({ cls := "java/lang/String", name := "trim", desc := "()Ljava/lang/String;" } : Jvm.MethodName)) : Jvm.Cond).before a0 Z = true := hw _ (List.mem_of_getElem? (i := 109) rfl)
theorem wd110 {a0 : Array Value} {Z : State} (hw : HW a0 Z) : ((Jvm.Cond.declares ({ cls := "java/lang/String", name := "trim", desc := "()Ljava/lang/String;" } : Jvm.MethodName)) : Jvm.Cond).before a0 Z = true := hw _ (List.mem_of_getElem? (i := 110) rfl)
theorem wd111 {a0 : Array Value} {Z : State} (hw : HW a0 Z) : ((Jvm.Cond.instanceMethod ({ cls := "java/lang/String", name := "trim", desc := "()Ljava/lang/String;" } : Jvm.MethodName)) : Jvm.Cond).before a0 Z = true := hw _ (List.mem_of_getElem? (i := 111) rfl)
theorem d_prog_15m2_26 : decode prog_15_method_2_code 26 = .ok (.getstatic 21, 3) := by decide +kernel
theorem wd117 {a0 : Array Value} {Z : State} (hw : HW a0 Z) : ((Jvm.Cond.fieldLink "com/example/handoff/handoff/internal/MediaTypes" (21 : Nat) "java/util/Locale" "ROOT" "Ljava/util/Locale;") : Jvm.Cond).before a0 Z = true := hw _ (List.mem_of_getElem? (i := 117) rfl)
theorem d_prog_15m2_29 : decode prog_15_method_2_code 29 = .ok (.invokevirtual 27, 3) := by decide +kernel
theorem wd123 {a0 : Array Value} {Z : State} (hw : HW a0 Z) : ((Jvm.Cond.code ({ cls := "java/lang/String", name := "toLowerCase", desc := "(Ljava/util/Locale;)Ljava/lang/String;" } : Jvm.MethodName) jdk_42_method_109_code (2 : Nat) (Option.some (Jvm.ClassFile.FieldType.object "java/lang/String"))) : Jvm.Cond).before a0 Z = true := hw _ (List.mem_of_getElem? (i := 123) rfl)
theorem pd16 : parseMethodDescriptor "(Ljava/util/Locale;)Ljava/lang/String;" = some ⟨[(.object "java/util/Locale")], some (.object "java/lang/String")⟩ := by decide +kernel
theorem wd122 {a0 : Array Value} {Z : State} (hw : HW a0 Z) : ((Jvm.Cond.selects "java/lang/String" ({ cls := "java/lang/String", name := "toLowerCase", desc := "(Ljava/util/Locale;)Ljava/lang/String;" } : Jvm.MethodName) ({ cls := "java/lang/String", name := "toLowerCase", desc := "(Ljava/util/Locale;)Ljava/lang/String;" } : Jvm.MethodName)) : Jvm.Cond).before a0 Z = true := hw _ (List.mem_of_getElem? (i := 122) rfl)
theorem wd119 {a0 : Array Value} {Z : State} (hw : HW a0 Z) : ((Jvm.Cond.methodLink "com/example/handoff/handoff/internal/MediaTypes" (27 : Nat) ({ cls := "java/lang/String", name := "toLowerCase", desc := "(Ljava/util/Locale;)Ljava/lang/String;" } : Jvm.MethodName)) : Jvm.Cond).before a0 Z = true := hw _ (List.mem_of_getElem? (i := 119) rfl)
theorem wd120 {a0 : Array Value} {Z : State} (hw : HW a0 Z) : ((Jvm.Cond.declares ({ cls := "java/lang/String", name := "toLowerCase", desc := "(Ljava/util/Locale;)Ljava/lang/String;" } : Jvm.MethodName)) : Jvm.Cond).before a0 Z = true := hw _ (List.mem_of_getElem? (i := 120) rfl)
theorem wd121 {a0 : Array Value} {Z : State} (hw : HW a0 Z) : ((Jvm.Cond.instanceMethod ({ cls := "java/lang/String", name := "toLowerCase", desc := "(Ljava/util/Locale;)Ljava/lang/String;" } : Jvm.MethodName)) : Jvm.Cond).before a0 Z = true := hw _ (List.mem_of_getElem? (i := 121) rfl)
theorem d_prog_15m2_32 : decode prog_15_method_2_code 32 = .ok (.areturn, 1) := by decide +kernel
theorem d_prog_15m2_15 : decode prog_15_method_2_code 15 = .ok (.aload_n 0, 1) := by decide +kernel
theorem d_prog_15m2_16 : decode prog_15_method_2_code 16 = .ok (.iconst 0, 1) := by decide +kernel
theorem d_prog_15m2_17 : decode prog_15_method_2_code 17 = .ok (.iload_n 1, 1) := by decide +kernel
theorem d_prog_15m2_18 : decode prog_15_method_2_code 18 = .ok (.invokevirtual 13, 3) := by decide +kernel
theorem wd94 {a0 : Array Value} {Z : State} (hw : HW a0 Z) : ((Jvm.Cond.code ({ cls := "java/lang/String", name := "substring", desc := "(II)Ljava/lang/String;" } : Jvm.MethodName) jdk_42_method_92_code (5 : Nat) (Option.some (Jvm.ClassFile.FieldType.object "java/lang/String"))) : Jvm.Cond).before a0 Z = true := hw _ (List.mem_of_getElem? (i := 94) rfl)
theorem pd17 : parseMethodDescriptor "(II)Ljava/lang/String;" = some ⟨[.int, .int], some (.object "java/lang/String")⟩ := by decide +kernel
theorem wd93 {a0 : Array Value} {Z : State} (hw : HW a0 Z) : ((Jvm.Cond.selects "java/lang/String" ({ cls := "java/lang/String", name := "substring", desc := "(II)Ljava/lang/String;" } : Jvm.MethodName) ({ cls := "java/lang/String", name := "substring", desc := "(II)Ljava/lang/String;" } : Jvm.MethodName)) : Jvm.Cond).before a0 Z = true := hw _ (List.mem_of_getElem? (i := 93) rfl)
theorem wd90 {a0 : Array Value} {Z : State} (hw : HW a0 Z) : ((Jvm.Cond.methodLink "com/example/handoff/handoff/internal/MediaTypes" (13 : Nat) ({ cls := "java/lang/String", name := "substring", desc := "(II)Ljava/lang/String;" } : Jvm.MethodName)) : Jvm.Cond).before a0 Z = true := hw _ (List.mem_of_getElem? (i := 90) rfl)
theorem wd91 {a0 : Array Value} {Z : State} (hw : HW a0 Z) : ((Jvm.Cond.declares ({ cls := "java/lang/String", name := "substring", desc := "(II)Ljava/lang/String;" } : Jvm.MethodName)) : Jvm.Cond).before a0 Z = true := hw _ (List.mem_of_getElem? (i := 91) rfl)
theorem wd92 {a0 : Array Value} {Z : State} (hw : HW a0 Z) : ((Jvm.Cond.instanceMethod ({ cls := "java/lang/String", name := "substring", desc := "(II)Ljava/lang/String;" } : Jvm.MethodName)) : Jvm.Cond).before a0 Z = true := hw _ (List.mem_of_getElem? (i := 92) rfl)
def Q_ess (Z : State) (zC : Int32) (vF : Value) (aI : Addr) (aR : Addr) (a1 : Addr) (t : Addr) (kb : ClassId) (c0 : Int32) (c1 : Int32) (c2 : Int32) (c3 : Int32) (c4 : Int32) (aB : Addr) (aG : Addr) (aV : Addr) (kG : ClassId) (gL : List Value) (h0 : Heap) (v : Option Value) (h : Heap) (L : List Loc) : Prop := ∃ (r : Addr), ∃ (ct : Addr), ∃ (kc : ClassId), ∃ (vL : List Value), v = some (.ref r) ∧ Fr Z.heap.size L ∧ Keep h0 h [] ∧ Exa Z h r sT0 ∧ Fld Z h r sT0 "coder" "B" (iv 0) ∧ Fld Z h r sT0 "value" "[B" (.ref ct) ∧ Arv Z h ct kc .byte (imx (0 : Int32) ((lse c0 c1 c2 c3 c4 (fse c0 c1 c2 c3 c4)) - (fso c0 c1 c2 c3 c4 (fse c0 c1 c2 c3 c4)))) vL (.int 0) ∧ (ATP c0 c1 c2 c3 c4 (fso c0 c1 c2 c3 c4 (fse c0 c1 c2 c3 c4)) (imx (0 : Int32) ((lse c0 c1 c2 c3 c4 (fse c0 c1 c2 c3 c4)) - (fso c0 c1 c2 c3 c4 (fse c0 c1 c2 c3 c4)))) vL)
theorem pn10 : plainName "com/example/handoff/handoff/internal/MediaTypes" = true := by first | (simp [plainName, overriddenIn]; done) | decide +kernel
theorem rm_ess (l : Launch) (Z : State) (a0 : Array Value) (hw : HW a0 Z) (zC : Int32) (SC : tSC Z zC) (PC : ¬ zC = (0 : Int32)) (vF : Value) (rF : vF = .null ∨ ∃ a, vF = .ref a) (SF : tSF Z vF) (aI : Addr) (SI : tSI Z aI) (aR : Addr) (SR : tSR Z aR) (a1 : Addr) (t : Addr) (kb : ClassId) (c0 : Int32) (c1 : Int32) (c2 : Int32) (c3 : Int32) (c4 : Int32) (aB : Addr) (aG : Addr) (aV : Addr) (kG : ClassId) (gL : List Value) (h0 : Heap) (O0 : Old Z Z.heap.size h0) (Pe : Exa Z h0 a1 sT0) (Pc : Fld Z h0 a1 sT0 "coder" "B" (iv 0)) (Pv : Fld Z h0 a1 sT0 "value" "[B" (.ref t)) (PB : Arv Z h0 t kb .byte (5 : Int32) [(.int (StrChars.lo8 c0)), (.int (StrChars.lo8 c1)), (.int (StrChars.lo8 c2)), (.int (StrChars.lo8 c3)), (.int (StrChars.lo8 c4))] (.int 0)) (H0 : (¬ (c0 < (0 : Int32)))) (J0 : (¬ ((255 : Int32) < c0))) (H1 : (¬ (c1 < (0 : Int32)))) (J1 : (¬ ((255 : Int32) < c1))) (H2 : (¬ (c2 < (0 : Int32)))) (J2 : (¬ ((255 : Int32) < c2))) (H3 : (¬ (c3 < (0 : Int32)))) (J3 : (¬ ((255 : Int32) < c3))) (H4 : (¬ (c4 < (0 : Int32)))) (J4 : (¬ ((255 : Int32) < c4))) (L1 : Exa Z h0 aR "java/util/Locale") (L2 : Fld Z h0 aR "java/util/Locale" "baseLocale" "Lsun/util/locale/BaseLocale;" (.ref aB)) (L3 : Exa Z h0 aB "sun/util/locale/BaseLocale") (L4 : Fld Z h0 aB "sun/util/locale/BaseLocale" "language" "Ljava/lang/String;" (.ref aG)) (L5 : Exa Z h0 aG sT0) (L6 : Fld Z h0 aG sT0 "value" "[B" (.ref aV)) (L7 : Arv Z h0 aV kG .byte (0 : Int32) gL (.int 0)) (L8 : Exa Z h0 aI "java/lang/CharacterDataLatin1") :
    ConS l Z EL (⟨"com/example/handoff/handoff/internal/MediaTypes", "essence", "(Ljava/lang/String;)Ljava/lang/String;"⟩ : MethodName) prog_15_method_2_code 3 (some (.object sT0)) ({ frames := 6, cells := 12, slots := 63, locals := 104 } : Room) #[(.ref a1)] h0 [] (Q_ess Z zC vF aI aR a1 t kb c0 c1 c2 c3 c4 aB aG aV kG gL h0) := by
  refine ConS.intro (plainFor_of_name pn10) ?_
  intro p e s m below meth c T0 v0 X0 hx hby hml hown0 hnm hret hlk hZ0 e0 hS0 C0 hsl0
  have N0 := Fr.nil Z.heap.size
  refine castGo (g' := mkF m 0 #[.val (.ref a1), .unset, .unset] []) (by first | rfl | (simp [entryFrame, mkF, argsToLocals, Value.category]; done)) ?_
  have HR5 : ∀ x ∈ ([c0, c1, c2, c3, c4] : List Int32), ¬ x < 0 ∧ ¬ (255 : Int32) < x := (alS ⟨H0, J0⟩ (alS ⟨H1, J1⟩ (alS ⟨H2, J2⟩ (alS ⟨H3, J3⟩ (alS ⟨H4, J4⟩ al0)))))
  show Go _ _ _ _ (T0.setTop (mkF m 0 #[.val (.ref a1), .unset, .unset] []))
  refine aL X0 hx (hb hby d_prog_15m2_0) (q := 1) rfl rfl rfl ?_
  refine bI X0 hx (hb hby d_prog_15m2_1) (q := 3) rfl (z := (59 : Int32)) rfl ?_
  refine g_vi X0 hx hZ0 hown0 (wd51 hw) (wd52 hw) (notFace_of_selects (args := #[]) (mvT hZ0 (wd54 hw))) (wd54 hw) (wd53 hw) (by decide) Pe e0 (Con.back (W := 0) (rm_io1 l Z a0 hw zC SC PC vF rF SF aI SI aR SR a1 t kb c0 c1 c2 c3 c4 h0 O0 Pe Pc Pv PB H0 J0 H1 J1 H2 J2 H3 J3 H4 J4) hZ0 (wd55 hw) (wd20 hw) (by decide) (by decide)) (by rw [hml]; rfl) (lenOf pd14 rfl) rfl (Nat.le_of_eq rfl) (hb hby d_prog_15m2_3) (q := 6) rfl (by decide) (by decide) ?_
  intro v342 T342 L342 X342 Q342
  obtain ⟨rfl, Nq342, e342⟩ := Q342
  have N342 := Fr.app N0 Nq342
  show Go _ _ _ _ (T342.setTop (mkF m 6 #[.val (.ref a1), .unset, .unset] [(.int (ixf (fse c0 c1 c2 c3 c4)))]))
  rcases fse3 c0 c1 c2 c3 c4 with hE | hE | ⟨e, hm, hE⟩
  · refine castGo (g' := mkF m 6 #[.val (.ref a1), .unset, .unset] [(.int (-1 : Int32))]) (by rw [(show (-1 : Int32) = (ixf (fse c0 c1 c2 c3 c4)) from by rw [hE]; decide)]) ?_
    show Go _ _ _ _ (T342.setTop (mkF m 6 #[.val (.ref a1), .unset, .unset] [(.int (-1 : Int32))]))
    refine sI X342 hx (hb hby d_prog_15m2_6) (q := 7) rfl (Ls' := #[.val (.ref a1), .val (.int (-1 : Int32)), .unset]) rfl ?_
    refine iL X342 hx (hb hby d_prog_15m2_7) (q := 8) rfl rfl ?_
    refine ifN X342 hx (hb hby d_prog_15m2_8) (q := 11) rfl (by decide) ?_
    refine aL X342 hx (hb hby d_prog_15m2_11) (q := 12) rfl rfl rfl ?_
    refine g_goto X342 hx (hb hby d_prog_15m2_12) (q := 21) (by decide) (by decide) ?_
    refine sA X342 hx (hb hby d_prog_15m2_21) (q := 22) rfl rfl (Ls' := #[.val (.ref a1), .val (.int (-1 : Int32)), .val (.ref a1)]) rfl ?_
    refine aL X342 hx (hb hby d_prog_15m2_22) (q := 23) rfl rfl rfl ?_
    refine g_viS X342 hx hZ0 hown0 hS0 (Nat.zero_le _) (wd109 hw) (wd110 hw) (notFace_of_selects (args := #[]) (mvT hZ0 (wd112 hw))) (wd112 hw) (wd111 hw) (by decide) Pe e342 (ConS.back (W := 0) (rm_str l Z a0 hw zC SC PC vF rF SF aI SI aR SR a1 t kb ([c0, c1, c2, c3, c4] : List Int32) 5 h0 O0 Pe Pc Pv PB rfl (by decide) (alS ⟨H0, J0⟩ (alS ⟨H1, J1⟩ (alS ⟨H2, J2⟩ (alS ⟨H3, J3⟩ (alS ⟨H4, J4⟩ al0)))))) hZ0 (wd113 hw) (wd20 hw) (by decide) (by decide) (own_EW hw) C0.1 sf0 all0) (by rw [hml]; rfl) (lenOf pd12 rfl) rfl (Nat.le_of_eq rfl) (hb hby d_prog_15m2_23) (q := 26) rfl (by decide) (by decide) ?_
    rintro v343 T343 L343 ⟨X343, hS343, hZ343, hown343, R343⟩ Q343
    obtain ⟨r_343, ct_343, kc_343, ti_343, tm_343, rfl, Nq343, K343q, q343_0, q343_1, q343_2, q343_3, q343_4⟩ := Q343
    have N343 := Fr.app N342 Nq343
    show Go _ _ _ _ (T343.setTop (mkF m 26 #[.val (.ref a1), .val (.int (-1 : Int32)), .val (.ref a1)] [(.ref r_343)]))
    have f345 := O0.keep K343q all0
    refine g_getS X343 hx hZ343 hown343 (host := "") (Or.inl (wd117 hw)) Via.refl (SR.ext f345.2) rfl (hb hby d_prog_15m2_26) (q := 29) rfl ?_
    intro T344 X344 e344
    have f355 := L1.keep K343q
    have f356 := L2.keep K343q nin0
    have f357 := L3.keep K343q
    have f358 := L4.keep K343q nin0
    have f359 := L5.keep K343q
    have f360 := L6.keep K343q nin0
    have f361 := L7.keep K343q nin0
    have f362 := L8.keep K343q
    have f363 := C0.trans R343
    refine g_viS X344 hx hZ343 hown343 hS343 (Nat.le_trans (Nat.le_refl _) (Nat.le_refl _)) (wd119 hw) (wd120 hw) (notFace_of_selects (args := #[]) (mvT hZ343 (wd122 hw))) (wd122 hw) (wd121 hw) (by decide) q343_0 e344 (ConS.back (W := 0) (rm_slc l Z a0 hw zC SC PC vF rF SF aI SI aR SR r_343 ct_343 kc_343 (List.take tm_343 (List.drop ti_343 ([c0, c1, c2, c3, c4] : List Int32))) tm_343 aB aG aV kG gL T343.heap f345 q343_0 q343_1 q343_2 q343_3 (td_len rfl q343_4) (Nat.le_trans (Nat.le_trans (Nat.le_add_left _ _) q343_4.1) (by decide)) (td_mem (alS ⟨H0, J0⟩ (alS ⟨H1, J1⟩ (alS ⟨H2, J2⟩ (alS ⟨H3, J3⟩ (alS ⟨H4, J4⟩ al0)))))) f355 f356 f357 f358 f359 f360 f361 f362) hZ343 (wd123 hw) (wd20 hw) (by decide) (by decide) (own_EW hw) f363.1 sf0 all0) (by rw [hml]; rfl) (lenOf pd16 rfl) rfl (Nat.le_of_eq rfl) (hb hby d_prog_15m2_29) (q := 32) rfl (by decide) (by decide) ?_
    rintro v354 T354 L354 ⟨X354, hS354, hZ354, hown354, R354⟩ Q354
    obtain ⟨r_354, ct_354, kc_354, rfl, Nq354, K354q, q354_0, q354_1, q354_2, q354_3⟩ := Q354
    have N354 := Fr.app N343 Nq354
    show Go _ _ _ _ (T354.setTop (mkF m 32 #[.val (.ref a1), .val (.int (-1 : Int32)), .val (.ref a1)] [(.ref r_354)]))
    have K364 : Keep h0 T343.heap [] := (Keep.refl h0 []).trans K343q all0
    have K365 : Keep h0 T354.heap [] := K364.trans K354q all0
    have f366 := f363.trans R354
    refine endC X354 hlk hS354 (Nat.le_trans (Nat.le_refl _) (Nat.le_refl _)) hZ354 (own_EW hw) f366 (fun h => by rw [hret] at h; cases h) (lastA X354 hx hret rfl rfl rfl (hb hby d_prog_15m2_32)) ?_ (by decide) (by decide)
    exact ⟨r_354, ct_354, kc_354, ((List.take tm_343 (List.drop ti_343 ([c0, c1, c2, c3, c4] : List Int32))).map lo8W), rfl, N354, K365, q354_0, q354_1, q354_2, (by rw [ess_N (c0 := c0) (c1 := c1) (c2 := c2) (c3 := c3) (c4 := c4) (e := 5) hE (by decide) q343_4]; exact q354_3), (ess_at (c0 := c0) (c1 := c1) (c2 := c2) (c3 := c3) (c4 := c4) (e := 5) hE (by decide) q343_4)⟩
  · refine castGo (g' := mkF m 6 #[.val (.ref a1), .unset, .unset] [(iv 0)]) (by rw [(show (0 : Int32) = (ixf (fse c0 c1 c2 c3 c4)) from by rw [hE]; decide)]) ?_
    show Go _ _ _ _ (T342.setTop (mkF m 6 #[.val (.ref a1), .unset, .unset] [(iv 0)]))
    refine sI X342 hx (hb hby d_prog_15m2_6) (q := 7) rfl (Ls' := #[.val (.ref a1), .val (iv 0), .unset]) rfl ?_
    refine iL X342 hx (hb hby d_prog_15m2_7) (q := 8) rfl rfl ?_
    refine ifY X342 hx (hb hby d_prog_15m2_8) (q := 15) (by decide) (by decide) (by decide) ?_
    refine aL X342 hx (hb hby d_prog_15m2_15) (q := 16) rfl rfl rfl ?_
    refine cI X342 hx (hb hby d_prog_15m2_16) (q := 17) rfl (z := (0 : Int32)) rfl ?_
    refine iL X342 hx (hb hby d_prog_15m2_17) (q := 18) rfl rfl ?_
    refine g_viS X342 hx hZ0 hown0 hS0 (Nat.zero_le _) (wd90 hw) (wd91 hw) (notFace_of_selects (args := #[]) (mvT hZ0 (wd93 hw))) (wd93 hw) (wd92 hw) (by decide) Pe e342 (ConS.back (W := 0) (rm_subs0 l Z a0 hw zC SC PC vF rF SF aI SI aR SR a1 t kb [(.int (StrChars.lo8 c0)), (.int (StrChars.lo8 c1)), (.int (StrChars.lo8 c2)), (.int (StrChars.lo8 c3)), (.int (StrChars.lo8 c4))] h0 O0 Pe Pc Pv PB rfl) hZ0 (wd94 hw) (wd20 hw) (by decide) (by decide) (own_EW hw) C0.1 sf0 all0) (by rw [hml]; rfl) (lenOf pd17 rfl) rfl (Nat.le_of_eq rfl) (hb hby d_prog_15m2_18) (q := 21) rfl (by decide) (by decide) ?_
    rintro v367 T367 L367 ⟨X367, hS367, hZ367, hown367, R367⟩ Q367
    obtain ⟨r_367, ct_367, kc_367, rfl, Nq367, K367q, q367_0, q367_1, q367_2, q367_3⟩ := Q367
    have N367 := Fr.app N342 Nq367
    show Go _ _ _ _ (T367.setTop (mkF m 21 #[.val (.ref a1), .val (iv 0), .unset] [(.ref r_367)]))
    refine sA X367 hx (hb hby d_prog_15m2_21) (q := 22) rfl rfl (Ls' := #[.val (.ref a1), .val (iv 0), .val (.ref r_367)]) rfl ?_
    refine aL X367 hx (hb hby d_prog_15m2_22) (q := 23) rfl rfl rfl ?_
    have f369 := O0.keep K367q all0
    have f370 := C0.trans R367
    refine g_viS X367 hx hZ367 hown367 hS367 (Nat.le_trans (Nat.le_refl _) (Nat.le_refl _)) (wd109 hw) (wd110 hw) (notFace_of_selects (args := #[]) (mvT hZ367 (wd112 hw))) (wd112 hw) (wd111 hw) (by decide) q367_0 rfl (ConS.back (W := 0) (rm_str l Z a0 hw zC SC PC vF rF SF aI SI aR SR r_367 ct_367 kc_367 ([] : List Int32) 0 T367.heap f369 q367_0 q367_1 q367_2 q367_3 rfl (by decide) al0) hZ367 (wd113 hw) (wd20 hw) (by decide) (by decide) (own_EW hw) f370.1 sf0 all0) (by rw [hml]; rfl) (lenOf pd12 rfl) rfl (Nat.le_of_eq rfl) (hb hby d_prog_15m2_23) (q := 26) rfl (by decide) (by decide) ?_
    rintro v368 T368 L368 ⟨X368, hS368, hZ368, hown368, R368⟩ Q368
    obtain ⟨r_368, ct_368, kc_368, ti_368, tm_368, rfl, Nq368, K368q, q368_0, q368_1, q368_2, q368_3, q368_4⟩ := Q368
    have N368 := Fr.app N367 Nq368
    show Go _ _ _ _ (T368.setTop (mkF m 26 #[.val (.ref a1), .val (iv 0), .val (.ref r_367)] [(.ref r_368)]))
    have f372 := f369.keep K368q all0
    refine g_getS X368 hx hZ368 hown368 (host := "") (Or.inl (wd117 hw)) Via.refl (SR.ext f372.2) rfl (hb hby d_prog_15m2_26) (q := 29) rfl ?_
    intro T371 X371 e371
    have f390 := L1.keep K367q
    have f391 := f390.keep K368q
    have f392 := L2.keep K367q nin0
    have f393 := f392.keep K368q nin0
    have f394 := L3.keep K367q
    have f395 := f394.keep K368q
    have f396 := L4.keep K367q nin0
    have f397 := f396.keep K368q nin0
    have f398 := L5.keep K367q
    have f399 := f398.keep K368q
    have f400 := L6.keep K367q nin0
    have f401 := f400.keep K368q nin0
    have f402 := L7.keep K367q nin0
    have f403 := f402.keep K368q nin0
    have f404 := L8.keep K367q
    have f405 := f404.keep K368q
    have f406 := f370.trans R368
    refine g_viS X371 hx hZ368 hown368 hS368 (Nat.le_trans (Nat.le_refl _) (Nat.le_refl _)) (wd119 hw) (wd120 hw) (notFace_of_selects (args := #[]) (mvT hZ368 (wd122 hw))) (wd122 hw) (wd121 hw) (by decide) q368_0 e371 (ConS.back (W := 0) (rm_slc l Z a0 hw zC SC PC vF rF SF aI SI aR SR r_368 ct_368 kc_368 (List.take tm_368 (List.drop ti_368 ([] : List Int32))) tm_368 aB aG aV kG gL T368.heap f372 q368_0 q368_1 q368_2 q368_3 (td_len rfl q368_4) (Nat.le_trans (Nat.le_trans (Nat.le_add_left _ _) q368_4.1) (by decide)) (td_mem al0) f391 f393 f395 f397 f399 f401 f403 f405) hZ368 (wd123 hw) (wd20 hw) (by decide) (by decide) (own_EW hw) f406.1 sf0 all0) (by rw [hml]; rfl) (lenOf pd16 rfl) rfl (Nat.le_of_eq rfl) (hb hby d_prog_15m2_29) (q := 32) rfl (by decide) (by decide) ?_
    rintro v389 T389 L389 ⟨X389, hS389, hZ389, hown389, R389⟩ Q389
    obtain ⟨r_389, ct_389, kc_389, rfl, Nq389, K389q, q389_0, q389_1, q389_2, q389_3⟩ := Q389
    have N389 := Fr.app N368 Nq389
    show Go _ _ _ _ (T389.setTop (mkF m 32 #[.val (.ref a1), .val (iv 0), .val (.ref r_367)] [(.ref r_389)]))
    have K407 : Keep h0 T367.heap [] := (Keep.refl h0 []).trans K367q all0
    have K408 : Keep h0 T368.heap [] := K407.trans K368q all0
    have K409 : Keep h0 T389.heap [] := K408.trans K389q all0
    have f410 := f406.trans R389
    refine endC X389 hlk hS389 (Nat.le_trans (Nat.le_refl _) (Nat.le_refl _)) hZ389 (own_EW hw) f410 (fun h => by rw [hret] at h; cases h) (lastA X389 hx hret rfl rfl rfl (hb hby d_prog_15m2_32)) ?_ (by decide) (by decide)
    exact ⟨r_389, ct_389, kc_389, ((List.take tm_368 (List.drop ti_368 ([] : List Int32))).map lo8W), rfl, N389, K409, q389_0, q389_1, q389_2, (by rw [ess_N (c0 := c0) (c1 := c1) (c2 := c2) (c3 := c3) (c4 := c4) (e := 0) hE (by decide) q368_4]; exact q389_3), (ess_at (c0 := c0) (c1 := c1) (c2 := c2) (c3 := c3) (c4 := c4) (e := 0) hE (by decide) q368_4)⟩
  · refine castGo (g' := mkF m 6 #[.val (.ref a1), .unset, .unset] [(.int (Int32.ofNat e))]) (by rw [(show Int32.ofNat e = (ixf (fse c0 c1 c2 c3 c4)) from by rw [hE]; exact (ixf_mid hm).symm)]) ?_
    have eb : e < 2147483648 := by omega
    show Go _ _ _ _ (T342.setTop (mkF m 6 #[.val (.ref a1), .unset, .unset] [(.int (Int32.ofNat e))]))
    refine sI X342 hx (hb hby d_prog_15m2_6) (q := 7) rfl (Ls' := #[.val (.ref a1), .val (.int (Int32.ofNat e)), .unset]) rfl ?_
    refine iL X342 hx (hb hby d_prog_15m2_7) (q := 8) rfl rfl ?_
    refine ifY X342 hx (hb hby d_prog_15m2_8) (q := 15) (by decide) (by decide) ((if0 _ _).trans (flt (on_nn eb)).2.1) ?_
    refine aL X342 hx (hb hby d_prog_15m2_15) (q := 16) rfl rfl rfl ?_
    refine cI X342 hx (hb hby d_prog_15m2_16) (q := 17) rfl (z := (0 : Int32)) rfl ?_
    refine iL X342 hx (hb hby d_prog_15m2_17) (q := 18) rfl rfl ?_
    refine g_vi X342 hx hZ0 hown0 (wd90 hw) (wd91 hw) (notFace_of_selects (args := #[]) (mvT hZ0 (wd93 hw))) (wd93 hw) (wd92 hw) (by decide) Pe e342 (Con.back (W := 0) (rm_subs l Z a0 hw zC SC PC vF rF SF aI SI aR SR a1 t kb [(.int (StrChars.lo8 c0)), (.int (StrChars.lo8 c1)), (.int (StrChars.lo8 c2)), (.int (StrChars.lo8 c3)), (.int (StrChars.lo8 c4))] e h0 O0 Pe Pc Pv PB rfl (show 0 < e from by omega) (show e < 5 from by omega)) hZ0 (wd94 hw) (wd20 hw) (by decide) (by decide)) (by rw [hml]; rfl) (lenOf pd17 rfl) rfl (Nat.le_of_eq rfl) (hb hby d_prog_15m2_18) (q := 21) rfl (by decide) (by decide) ?_
    intro v411 T411 L411 X411 Q411
    obtain ⟨r_411, ct_411, kc_411, rfl, Nq411, K411q, q411_0, q411_1, q411_2, q411_3⟩ := Q411
    have N411 := Fr.app N342 Nq411
    show Go _ _ _ _ (T411.setTop (mkF m 21 #[.val (.ref a1), .val (.int (Int32.ofNat e)), .unset] [(.ref r_411)]))
    refine sA X411 hx (hb hby d_prog_15m2_21) (q := 22) rfl rfl (Ls' := #[.val (.ref a1), .val (.int (Int32.ofNat e)), .val (.ref r_411)]) rfl ?_
    refine aL X411 hx (hb hby d_prog_15m2_22) (q := 23) rfl rfl rfl ?_
    have fT : Arv Z T411.heap ct_411 kc_411 .byte (Int32.ofNat e) ((List.take e (List.drop 0 ([c0, c1, c2, c3, c4] : List Int32))).map lo8V) (.int 0) := by have q := q411_3; rw [← td_sub (cs := ([c0, c1, c2, c3, c4] : List Int32)) (i := 0) (m := e) (n := 5) rfl (by omega)]; exact q
    have f413 := O0.keep K411q all0
    have f414 := C0.trans (CHr.keep K411q sf0 C0.1)
    refine g_viS X411 hx hZ0 hown0 hS0 (Nat.zero_le _) (wd109 hw) (wd110 hw) (notFace_of_selects (args := #[]) (mvT hZ0 (wd112 hw))) (wd112 hw) (wd111 hw) (by decide) q411_0 rfl (ConS.back (W := 0) (rm_str l Z a0 hw zC SC PC vF rF SF aI SI aR SR r_411 ct_411 kc_411 (List.take e (List.drop 0 ([c0, c1, c2, c3, c4] : List Int32))) e T411.heap f413 q411_0 q411_1 q411_2 fT (show (List.take e (List.drop 0 ([c0, c1, c2, c3, c4] : List Int32))).length = e from by simp; omega) (show e ≤ 5 from by omega) (td_mem HR5)) hZ0 (wd113 hw) (wd20 hw) (by decide) (by decide) (own_EW hw) f414.1 sf0 all0) (by rw [hml]; rfl) (lenOf pd12 rfl) rfl (Nat.le_of_eq rfl) (hb hby d_prog_15m2_23) (q := 26) rfl (by decide) (by decide) ?_
    rintro v412 T412 L412 ⟨X412, hS412, hZ412, hown412, R412⟩ Q412
    obtain ⟨r_412, ct_412, kc_412, ti_412, tm_412, rfl, Nq412, K412q, q412_0, q412_1, q412_2, q412_3, q412_4⟩ := Q412
    have N412 := Fr.app N411 Nq412
    show Go _ _ _ _ (T412.setTop (mkF m 26 #[.val (.ref a1), .val (.int (Int32.ofNat e)), .val (.ref r_411)] [(.ref r_412)]))
    have f416 := f413.keep K412q all0
    refine g_getS X412 hx hZ412 hown412 (host := "") (Or.inl (wd117 hw)) Via.refl (SR.ext f416.2) rfl (hb hby d_prog_15m2_26) (q := 29) rfl ?_
    intro T415 X415 e415
    have f434 := L1.keep K411q
    have f435 := f434.keep K412q
    have f436 := L2.keep K411q nin0
    have f437 := f436.keep K412q nin0
    have f438 := L3.keep K411q
    have f439 := f438.keep K412q
    have f440 := L4.keep K411q nin0
    have f441 := f440.keep K412q nin0
    have f442 := L5.keep K411q
    have f443 := f442.keep K412q
    have f444 := L6.keep K411q nin0
    have f445 := f444.keep K412q nin0
    have f446 := L7.keep K411q nin0
    have f447 := f446.keep K412q nin0
    have f448 := L8.keep K411q
    have f449 := f448.keep K412q
    have f450 := f414.trans R412
    refine g_viS X415 hx hZ412 hown412 hS412 (Nat.le_trans (Nat.le_refl _) (Nat.le_refl _)) (wd119 hw) (wd120 hw) (notFace_of_selects (args := #[]) (mvT hZ412 (wd122 hw))) (wd122 hw) (wd121 hw) (by decide) q412_0 e415 (ConS.back (W := 0) (rm_slc l Z a0 hw zC SC PC vF rF SF aI SI aR SR r_412 ct_412 kc_412 (List.take tm_412 (List.drop ti_412 (List.take e (List.drop 0 ([c0, c1, c2, c3, c4] : List Int32))))) tm_412 aB aG aV kG gL T412.heap f416 q412_0 q412_1 q412_2 q412_3 (td_len (show (List.take e (List.drop 0 ([c0, c1, c2, c3, c4] : List Int32))).length = e from by simp; omega) q412_4) (Nat.le_trans (Nat.le_trans (Nat.le_add_left _ _) q412_4.1) (show e ≤ 5 from by omega)) (td_mem (td_mem HR5)) f435 f437 f439 f441 f443 f445 f447 f449) hZ412 (wd123 hw) (wd20 hw) (by decide) (by decide) (own_EW hw) f450.1 sf0 all0) (by rw [hml]; rfl) (lenOf pd16 rfl) rfl (Nat.le_of_eq rfl) (hb hby d_prog_15m2_29) (q := 32) rfl (by decide) (by decide) ?_
    rintro v433 T433 L433 ⟨X433, hS433, hZ433, hown433, R433⟩ Q433
    obtain ⟨r_433, ct_433, kc_433, rfl, Nq433, K433q, q433_0, q433_1, q433_2, q433_3⟩ := Q433
    have N433 := Fr.app N412 Nq433
    show Go _ _ _ _ (T433.setTop (mkF m 32 #[.val (.ref a1), .val (.int (Int32.ofNat e)), .val (.ref r_411)] [(.ref r_433)]))
    have K451 : Keep h0 T411.heap [] := (Keep.refl h0 []).trans K411q all0
    have K452 : Keep h0 T412.heap [] := K451.trans K412q all0
    have K453 : Keep h0 T433.heap [] := K452.trans K433q all0
    have f454 := f450.trans R433
    refine endC X433 hlk hS433 (Nat.le_trans (Nat.le_refl _) (Nat.le_refl _)) hZ433 (own_EW hw) f454 (fun h => by rw [hret] at h; cases h) (lastA X433 hx hret rfl rfl rfl (hb hby d_prog_15m2_32)) ?_ (by decide) (by decide)
    exact ⟨r_433, ct_433, kc_433, ((List.take tm_412 (List.drop ti_412 (List.take e (List.drop 0 ([c0, c1, c2, c3, c4] : List Int32))))).map lo8W), rfl, N433, K453, q433_0, q433_1, q433_2, (by rw [ess_N (c0 := c0) (c1 := c1) (c2 := c2) (c3 := c3) (c4 := c4) (e := e) hE (by omega) q412_4]; exact q433_3), (ess_at (c0 := c0) (c1 := c1) (c2 := c2) (c3 := c3) (c4 := c4) (e := e) hE (by omega) q412_4)⟩
theorem i2c255 {c : Int32} (h0 : ¬ c < 0) (h1 : ¬ (255 : Int32) < c) : c.toUInt32.toUInt16.toUInt32.toInt32 = c := all256 (P := fun c => c.toUInt32.toUInt16.toUInt32.toInt32 = c) (by decide +kernel) h0 h1
theorem d_jdk_41m11_0 : decode jdk_41_method_11_code 0 = .ok (.iload_n 0, 1) := by decide +kernel
theorem d_jdk_41m11_1 : decode jdk_41_method_11_code 1 = .ok (.ifCond .lt 8, 3) := by decide +kernel
theorem d_jdk_41m11_4 : decode jdk_41_method_11_code 4 = .ok (.iload_n 0, 1) := by decide +kernel
theorem d_jdk_41m11_5 : decode jdk_41_method_11_code 5 = .ok (.iload_n 1, 1) := by decide +kernel
theorem d_jdk_41m11_6 : decode jdk_41_method_11_code 6 = .ok (.if_icmp .lt 10, 3) := by decide +kernel
theorem d_jdk_41m11_16 : decode jdk_41_method_11_code 16 = .ok (.iload_n 0, 1) := by decide +kernel
theorem d_jdk_41m11_17 : decode jdk_41_method_11_code 17 = .ok (.ireturn, 1) := by decide +kernel
def Q_pcin (Z : State) (zC : Int32) (vF : Value) (aI : Addr) (aR : Addr) (pk : Int32) (pz : Int32) (h0 : Heap) (v : Option Value) (h : Heap) (L : List Loc) : Prop := v = some (.int pk) ∧ Fr Z.heap.size L ∧ h = h0
theorem rm_pcin (l : Launch) (Z : State) (a0 : Array Value) (hw : HW a0 Z) (zC : Int32) (SC : tSC Z zC) (PC : ¬ zC = (0 : Int32)) (vF : Value) (rF : vF = .null ∨ ∃ a, vF = .ref a) (SF : tSF Z vF) (aI : Addr) (SI : tSI Z aI) (aR : Addr) (SR : tSR Z aR) (pk : Int32) (pz : Int32) (h0 : Heap) (O0 : Old Z Z.heap.size h0) (Pk : (¬ (pk < (0 : Int32)))) (Pz : (pk < pz)) :
    Con l Z (⟨"jdk/internal/util/Preconditions", "checkIndex", "(IILjava/util/function/BiFunction;)I"⟩ : MethodName) jdk_41_method_11_code 3 (some .int) ({ frames := 0, cells := 0, slots := 0, locals := 0 } : Room) #[(.int pk), (.int pz), .null] h0 (Q_pcin Z zC vF aI aR pk pz h0) := by
  refine Con.intro (plainFor_of_name pn7) ?_
  intro p e s m below meth c T0 X0 hx hby hml hown0 hnm hret hlk hZ0 e0
  have N0 := Fr.nil Z.heap.size
  refine castGo (g' := mkF m 0 #[.val (.int pk), .val (.int pz), .val .null] []) (by first | rfl | (simp [entryFrame, mkF, argsToLocals, Value.category]; done)) ?_
  show Go _ _ _ _ (T0.setTop (mkF m 0 #[.val (.int pk), .val (.int pz), .val .null] []))
  refine iL X0 hx (hb hby d_jdk_41m11_0) (q := 1) rfl rfl ?_
  refine ifN X0 hx (hb hby d_jdk_41m11_1) (q := 4) rfl ((if0 _ _).trans (flt Pk).1) ?_
  refine iL X0 hx (hb hby d_jdk_41m11_4) (q := 5) rfl rfl ?_
  refine iL X0 hx (hb hby d_jdk_41m11_5) (q := 6) rfl rfl ?_
  refine icY X0 hx (hb hby d_jdk_41m11_6) (q := 16) (by decide) (by decide) (tlt Pz).1 ?_
  refine iL X0 hx (hb hby d_jdk_41m11_16) (q := 17) rfl rfl ?_
  refine endP X0 hlk (fun h => by rw [hret] at h; cases h) (lastI X0 hx hret (hb hby d_jdk_41m11_17)) ?_ (by decide) (by decide)
  rw [e0]
  exact ⟨rfl, N0, rfl⟩
def Q_pcir (Z : State) (zC : Int32) (vF : Value) (aI : Addr) (aR : Addr) (pk : Int32) (pz : Int32) (a1 : Addr) (h0 : Heap) (v : Option Value) (h : Heap) (L : List Loc) : Prop := v = some (.int pk) ∧ Fr Z.heap.size L ∧ h = h0
theorem rm_pcir (l : Launch) (Z : State) (a0 : Array Value) (hw : HW a0 Z) (zC : Int32) (SC : tSC Z zC) (PC : ¬ zC = (0 : Int32)) (vF : Value) (rF : vF = .null ∨ ∃ a, vF = .ref a) (SF : tSF Z vF) (aI : Addr) (SI : tSI Z aI) (aR : Addr) (SR : tSR Z aR) (pk : Int32) (pz : Int32) (a1 : Addr) (h0 : Heap) (O0 : Old Z Z.heap.size h0) (Pk : (¬ (pk < (0 : Int32)))) (Pz : (pk < pz)) :
    Con l Z (⟨"jdk/internal/util/Preconditions", "checkIndex", "(IILjava/util/function/BiFunction;)I"⟩ : MethodName) jdk_41_method_11_code 3 (some .int) ({ frames := 0, cells := 0, slots := 0, locals := 0 } : Room) #[(.int pk), (.int pz), (.ref a1)] h0 (Q_pcir Z zC vF aI aR pk pz a1 h0) := by
  refine Con.intro (plainFor_of_name pn7) ?_
  intro p e s m below meth c T0 X0 hx hby hml hown0 hnm hret hlk hZ0 e0
  have N0 := Fr.nil Z.heap.size
  refine castGo (g' := mkF m 0 #[.val (.int pk), .val (.int pz), .val (.ref a1)] []) (by first | rfl | (simp [entryFrame, mkF, argsToLocals, Value.category]; done)) ?_
  show Go _ _ _ _ (T0.setTop (mkF m 0 #[.val (.int pk), .val (.int pz), .val (.ref a1)] []))
  refine iL X0 hx (hb hby d_jdk_41m11_0) (q := 1) rfl rfl ?_
  refine ifN X0 hx (hb hby d_jdk_41m11_1) (q := 4) rfl ((if0 _ _).trans (flt Pk).1) ?_
  refine iL X0 hx (hb hby d_jdk_41m11_4) (q := 5) rfl rfl ?_
  refine iL X0 hx (hb hby d_jdk_41m11_5) (q := 6) rfl rfl ?_
  refine icY X0 hx (hb hby d_jdk_41m11_6) (q := 16) (by decide) (by decide) (tlt Pz).1 ?_
  refine iL X0 hx (hb hby d_jdk_41m11_16) (q := 17) rfl rfl ?_
  refine endP X0 hlk (fun h => by rw [hret] at h; cases h) (lastI X0 hx hret (hb hby d_jdk_41m11_17)) ?_ (by decide) (by decide)
  rw [e0]
  exact ⟨rfl, N0, rfl⟩
theorem d_jdk_42m155_0 : decode jdk_42_method_155_code 0 = .ok (.iload_n 0, 1) := by decide +kernel
theorem d_jdk_42m155_1 : decode jdk_42_method_155_code 1 = .ok (.iload_n 1, 1) := by decide +kernel
theorem d_jdk_42m155_2 : decode jdk_42_method_155_code 2 = .ok (.getstatic 1053, 3) := by decide +kernel
theorem d_jdk_42m155_5 : decode jdk_42_method_155_code 5 = .ok (.invokestatic 1059, 3) := by decide +kernel
theorem wd171 {a0 : Array Value} {Z : State} (hw : HW a0 Z) : ((Jvm.Cond.code ({ cls := "jdk/internal/util/Preconditions", name := "checkIndex", desc := "(IILjava/util/function/BiFunction;)I" } : Jvm.MethodName) jdk_41_method_11_code (3 : Nat) (Option.some Jvm.ClassFile.FieldType.int)) : Jvm.Cond).before a0 Z = true := hw _ (List.mem_of_getElem? (i := 171) rfl)
theorem pd18 : parseMethodDescriptor "(IILjava/util/function/BiFunction;)I" = some ⟨[.int, .int, (.object "java/util/function/BiFunction")], some .int⟩ := by decide +kernel
theorem wd169 {a0 : Array Value} {Z : State} (hw : HW a0 Z) : ((Jvm.Cond.methodLink "java/lang/String" (1059 : Nat) ({ cls := "jdk/internal/util/Preconditions", name := "checkIndex", desc := "(IILjava/util/function/BiFunction;)I" } : Jvm.MethodName)) : Jvm.Cond).before a0 Z = true := hw _ (List.mem_of_getElem? (i := 169) rfl)
theorem wd170 {a0 : Array Value} {Z : State} (hw : HW a0 Z) : ((Jvm.Cond.static ({ cls := "jdk/internal/util/Preconditions", name := "checkIndex", desc := "(IILjava/util/function/BiFunction;)I" } : Jvm.MethodName)) : Jvm.Cond).before a0 Z = true := hw _ (List.mem_of_getElem? (i := 170) rfl)
theorem d_jdk_42m155_8 : decode jdk_42_method_155_code 8 = .ok (.pop, 1) := by decide +kernel
theorem d_jdk_42m155_9 : decode jdk_42_method_155_code 9 = .ok (.return_, 1) := by decide +kernel
def Q_sci (Z : State) (zC : Int32) (vF : Value) (aI : Addr) (aR : Addr) (pk : Int32) (pz : Int32) (h0 : Heap) (v : Option Value) (h : Heap) (L : List Loc) : Prop := v = none ∧ Fr Z.heap.size L ∧ h = h0
theorem rm_sci (l : Launch) (Z : State) (a0 : Array Value) (hw : HW a0 Z) (zC : Int32) (SC : tSC Z zC) (PC : ¬ zC = (0 : Int32)) (vF : Value) (rF : vF = .null ∨ ∃ a, vF = .ref a) (SF : tSF Z vF) (aI : Addr) (SI : tSI Z aI) (aR : Addr) (SR : tSR Z aR) (pk : Int32) (pz : Int32) (h0 : Heap) (O0 : Old Z Z.heap.size h0) (Pk : (¬ (pk < (0 : Int32)))) (Pz : (pk < pz)) :
    Con l Z (⟨sT0, "checkIndex", "(II)V"⟩ : MethodName) jdk_42_method_155_code 2 none ({ frames := 1, cells := 0, slots := 0, locals := 14 } : Room) #[(.int pk), (.int pz)] h0 (Q_sci Z zC vF aI aR pk pz h0) := by
  refine Con.intro (plainFor_of_name pn3) ?_
  intro p e s m below meth c T0 X0 hx hby hml hown0 hnm hret hlk hZ0 e0
  have N0 := Fr.nil Z.heap.size
  refine castGo (g' := mkF m 0 #[.val (.int pk), .val (.int pz)] []) (by first | rfl | (simp [entryFrame, mkF, argsToLocals, Value.category]; done)) ?_
  show Go _ _ _ _ (T0.setTop (mkF m 0 #[.val (.int pk), .val (.int pz)] []))
  rcases id rF with hF | ⟨aF, hF⟩
  · have SF1 : Sta Z Z.heap "jdk/internal/util/Preconditions" "SIOOBE_FORMATTER" "Ljava/util/function/BiFunction;" .null := by rw [← hF]; exact SF
    show Go _ _ _ _ (T0.setTop (mkF m 0 #[.val (.int pk), .val (.int pz)] []))
    refine iL X0 hx (hb hby d_jdk_42m155_0) (q := 1) rfl rfl ?_
    refine iL X0 hx (hb hby d_jdk_42m155_1) (q := 2) rfl rfl ?_
    refine g_getS X0 hx hZ0 hown0 (host := "") (Or.inl (wd98 hw)) Via.refl (SF1.ext O0.2) e0 (hb hby d_jdk_42m155_2) (q := 5) rfl ?_
    intro T455 X455 e455
    refine g_st X455 hx hZ0 hown0 (wd169 hw) (wd170 hw) (wd99 hw) (wd171 hw) (by decide) e455 (Con.back (W := 0) (rm_pcin l Z a0 hw zC SC PC vF rF SF aI SI aR SR pk pz h0 O0 Pk Pz) hZ0 (wd171 hw) (wd99 hw) (by decide) (by decide)) (by rw [hml]; rfl) (lenOf pd18 rfl) rfl (Nat.le_of_eq rfl) (hb hby d_jdk_42m155_5) (q := 8) rfl (by decide) (by decide) ?_
    intro v456 T456 L456 X456 Q456
    obtain ⟨rfl, Nq456, e456⟩ := Q456
    have N456 := Fr.app N0 Nq456
    show Go _ _ _ _ (T456.setTop (mkF m 8 #[.val (.int pk), .val (.int pz)] [(.int pk)]))
    refine g_pop X456 hx (hb hby d_jdk_42m155_8) (q := 9) rfl rfl ?_
    refine endP X456 hlk (fun _ => rfl) (lastV X456 hx hret (hb hby d_jdk_42m155_9)) ?_ (by decide) (by decide)
    rw [e456]
    exact ⟨rfl, N456, rfl⟩
  · have SF1 : Sta Z Z.heap "jdk/internal/util/Preconditions" "SIOOBE_FORMATTER" "Ljava/util/function/BiFunction;" (.ref aF) := by rw [← hF]; exact SF
    show Go _ _ _ _ (T0.setTop (mkF m 0 #[.val (.int pk), .val (.int pz)] []))
    refine iL X0 hx (hb hby d_jdk_42m155_0) (q := 1) rfl rfl ?_
    refine iL X0 hx (hb hby d_jdk_42m155_1) (q := 2) rfl rfl ?_
    refine g_getS X0 hx hZ0 hown0 (host := "") (Or.inl (wd98 hw)) Via.refl (SF1.ext O0.2) e0 (hb hby d_jdk_42m155_2) (q := 5) rfl ?_
    intro T457 X457 e457
    refine g_st X457 hx hZ0 hown0 (wd169 hw) (wd170 hw) (wd99 hw) (wd171 hw) (by decide) e457 (Con.back (W := 0) (rm_pcir l Z a0 hw zC SC PC vF rF SF aI SI aR SR pk pz aF h0 O0 Pk Pz) hZ0 (wd171 hw) (wd99 hw) (by decide) (by decide)) (by rw [hml]; rfl) (lenOf pd18 rfl) rfl (Nat.le_of_eq rfl) (hb hby d_jdk_42m155_5) (q := 8) rfl (by decide) (by decide) ?_
    intro v458 T458 L458 X458 Q458
    obtain ⟨rfl, Nq458, e458⟩ := Q458
    have N458 := Fr.app N0 Nq458
    show Go _ _ _ _ (T458.setTop (mkF m 8 #[.val (.int pk), .val (.int pz)] [(.int pk)]))
    refine g_pop X458 hx (hb hby d_jdk_42m155_8) (q := 9) rfl rfl ?_
    refine endP X458 hlk (fun _ => rfl) (lastV X458 hx hret (hb hby d_jdk_42m155_9)) ?_ (by decide) (by decide)
    rw [e458]
    exact ⟨rfl, N458, rfl⟩
theorem d_jdk_43m2_0 : decode jdk_43_method_2_code 0 = .ok (.iload_n 1, 1) := by decide +kernel
theorem d_jdk_43m2_1 : decode jdk_43_method_2_code 1 = .ok (.aload_n 0, 1) := by decide +kernel
theorem d_jdk_43m2_2 : decode jdk_43_method_2_code 2 = .ok (.arraylength, 1) := by decide +kernel
theorem d_jdk_43m2_3 : decode jdk_43_method_2_code 3 = .ok (.invokestatic 9, 3) := by decide +kernel
theorem wd168 {a0 : Array Value} {Z : State} (hw : HW a0 Z) : ((Jvm.Cond.code ({ cls := "java/lang/String", name := "checkIndex", desc := "(II)V" } : Jvm.MethodName) jdk_42_method_155_code (2 : Nat) (Option.none : Option Jvm.ClassFile.FieldType)) : Jvm.Cond).before a0 Z = true := hw _ (List.mem_of_getElem? (i := 168) rfl)
theorem wd166 {a0 : Array Value} {Z : State} (hw : HW a0 Z) : ((Jvm.Cond.methodLink "java/lang/StringLatin1" (9 : Nat) ({ cls := "java/lang/String", name := "checkIndex", desc := "(II)V" } : Jvm.MethodName)) : Jvm.Cond).before a0 Z = true := hw _ (List.mem_of_getElem? (i := 166) rfl)
theorem wd167 {a0 : Array Value} {Z : State} (hw : HW a0 Z) : ((Jvm.Cond.static ({ cls := "java/lang/String", name := "checkIndex", desc := "(II)V" } : Jvm.MethodName)) : Jvm.Cond).before a0 Z = true := hw _ (List.mem_of_getElem? (i := 167) rfl)
theorem d_jdk_43m2_6 : decode jdk_43_method_2_code 6 = .ok (.aload_n 0, 1) := by decide +kernel
theorem d_jdk_43m2_7 : decode jdk_43_method_2_code 7 = .ok (.iload_n 1, 1) := by decide +kernel
theorem d_jdk_43m2_8 : decode jdk_43_method_2_code 8 = .ok (.baload, 1) := by decide +kernel
theorem d_jdk_43m2_9 : decode jdk_43_method_2_code 9 = .ok (.sipush 255, 3) := by decide +kernel
theorem d_jdk_43m2_12 : decode jdk_43_method_2_code 12 = .ok (.iand, 1) := by decide +kernel
theorem d_jdk_43m2_13 : decode jdk_43_method_2_code 13 = .ok (.i2c, 1) := by decide +kernel
theorem d_jdk_43m2_14 : decode jdk_43_method_2_code 14 = .ok (.ireturn, 1) := by decide +kernel
def Q_lca (Z : State) (zC : Int32) (vF : Value) (aI : Addr) (aR : Addr) (t : Addr) (kb : ClassId) (us : List Value) (pk : Int32) (pz : Int32) (yb : Int32) (h0 : Heap) (v : Option Value) (h : Heap) (L : List Loc) : Prop := v = some (.int yb) ∧ Fr Z.heap.size L ∧ h = h0
theorem rm_lca (l : Launch) (Z : State) (a0 : Array Value) (hw : HW a0 Z) (zC : Int32) (SC : tSC Z zC) (PC : ¬ zC = (0 : Int32)) (vF : Value) (rF : vF = .null ∨ ∃ a, vF = .ref a) (SF : tSF Z vF) (aI : Addr) (SI : tSI Z aI) (aR : Addr) (SR : tSR Z aR) (t : Addr) (kb : ClassId) (us : List Value) (pk : Int32) (pz : Int32) (yb : Int32) (h0 : Heap) (O0 : Old Z Z.heap.size h0) (Pa : Arv Z h0 t kb .byte pz us (.int 0)) (Pk : (¬ (pk < (0 : Int32)))) (Pz : (pk < pz)) (Pg : (us.getD (Int32.toNatClampNeg pk) (.int 0) = (.int (StrChars.lo8 yb)))) (Hb : (¬ (yb < (0 : Int32)))) (Jb : (¬ ((255 : Int32) < yb))) :
    Con l Z (⟨"java/lang/StringLatin1", "charAt", "([BI)C"⟩ : MethodName) jdk_43_method_2_code 2 (some .char) ({ frames := 2, cells := 0, slots := 0, locals := 27 } : Room) #[(.ref t), (.int pk)] h0 (Q_lca Z zC vF aI aR t kb us pk pz yb h0) := by
  refine Con.intro (plainFor_of_name pn2) ?_
  intro p e s m below meth c T0 X0 hx hby hml hown0 hnm hret hlk hZ0 e0
  have N0 := Fr.nil Z.heap.size
  refine castGo (g' := mkF m 0 #[.val (.ref t), .val (.int pk)] []) (by first | rfl | (simp [entryFrame, mkF, argsToLocals, Value.category]; done)) ?_
  show Go _ _ _ _ (T0.setTop (mkF m 0 #[.val (.ref t), .val (.int pk)] []))
  refine iL X0 hx (hb hby d_jdk_43m2_0) (q := 1) rfl rfl ?_
  refine aL X0 hx (hb hby d_jdk_43m2_1) (q := 2) rfl rfl rfl ?_
  refine g_len X0 hx hZ0 Pa e0 (hb hby d_jdk_43m2_2) (q := 3) rfl ?_
  refine g_st X0 hx hZ0 hown0 (wd166 hw) (wd167 hw) (wd20 hw) (wd168 hw) (by decide) e0 (Con.back (W := 0) (rm_sci l Z a0 hw zC SC PC vF rF SF aI SI aR SR pk pz h0 O0 Pk Pz) hZ0 (wd168 hw) (wd20 hw) (by decide) (by decide)) (by rw [hml]; rfl) (lenOf pd6 rfl) rfl (Nat.le_of_eq rfl) (hb hby d_jdk_43m2_3) (q := 6) rfl (by decide) (by decide) ?_
  intro v459 T459 L459 X459 Q459
  obtain ⟨rfl, Nq459, e459⟩ := Q459
  have N459 := Fr.app N0 Nq459
  show Go _ _ _ _ (T459.setTop (mkF m 6 #[.val (.ref t), .val (.int pk)] []))
  refine aL X459 hx (hb hby d_jdk_43m2_6) (q := 7) rfl rfl rfl ?_
  refine iL X459 hx (hb hby d_jdk_43m2_7) (q := 8) rfl rfl ?_
  refine g_ldB X459 hx hZ0 Pa (i := (Int32.toNatClampNeg pk)) rfl Pk Pz (v := (.int (StrChars.lo8 yb))) Pg e459 (hb hby d_jdk_43m2_8) (q := 9) rfl ?_
  refine pI X459 hx (hb hby d_jdk_43m2_9) (q := 12) rfl (z := (255 : Int32)) rfl ?_
  refine g_iand X459 hx (hb hby d_jdk_43m2_12) (q := 13) rfl (z := yb) (back8 Hb Jb) ?_
  refine g_i2c X459 hx (hb hby d_jdk_43m2_13) (q := 14) rfl (z := yb) (i2c255 Hb Jb) ?_
  refine endP X459 hlk (fun h => by rw [hret] at h; cases h) (lastN X459 hx (t := .char) (z' := yb) hret (by simp) (nar_of255 Hb Jb) (hb hby d_jdk_43m2_14)) ?_ (by decide) (by decide)
  rw [e459]
  exact ⟨rfl, N459, rfl⟩
theorem d_jdk_42m56_0 : decode jdk_42_method_56_code 0 = .ok (.aload_n 0, 1) := by decide +kernel
theorem d_jdk_42m56_1 : decode jdk_42_method_56_code 1 = .ok (.invokevirtual 492, 3) := by decide +kernel
theorem d_jdk_42m56_4 : decode jdk_42_method_56_code 4 = .ok (.ifCond .eq 12, 3) := by decide +kernel
theorem d_jdk_42m56_7 : decode jdk_42_method_56_code 7 = .ok (.aload_n 0, 1) := by decide +kernel
theorem d_jdk_42m56_8 : decode jdk_42_method_56_code 8 = .ok (.getfield 9, 3) := by decide +kernel
theorem d_jdk_42m56_11 : decode jdk_42_method_56_code 11 = .ok (.iload_n 1, 1) := by decide +kernel
theorem d_jdk_42m56_12 : decode jdk_42_method_56_code 12 = .ok (.invokestatic 495, 3) := by decide +kernel
theorem wd165 {a0 : Array Value} {Z : State} (hw : HW a0 Z) : ((Jvm.Cond.code ({ cls := "java/lang/StringLatin1", name := "charAt", desc := "([BI)C" } : Jvm.MethodName) jdk_43_method_2_code (2 : Nat) (Option.some Jvm.ClassFile.FieldType.char)) : Jvm.Cond).before a0 Z = true := hw _ (List.mem_of_getElem? (i := 165) rfl)
theorem pd19 : parseMethodDescriptor "([BI)C" = some ⟨[(.array .byte), .int], some .char⟩ := by decide +kernel
theorem wd163 {a0 : Array Value} {Z : State} (hw : HW a0 Z) : ((Jvm.Cond.methodLink "java/lang/String" (495 : Nat) ({ cls := "java/lang/StringLatin1", name := "charAt", desc := "([BI)C" } : Jvm.MethodName)) : Jvm.Cond).before a0 Z = true := hw _ (List.mem_of_getElem? (i := 163) rfl)
theorem wd164 {a0 : Array Value} {Z : State} (hw : HW a0 Z) : ((Jvm.Cond.static ({ cls := "java/lang/StringLatin1", name := "charAt", desc := "([BI)C" } : Jvm.MethodName)) : Jvm.Cond).before a0 Z = true := hw _ (List.mem_of_getElem? (i := 164) rfl)
theorem d_jdk_42m56_15 : decode jdk_42_method_56_code 15 = .ok (.ireturn, 1) := by decide +kernel
def Q_sca (Z : State) (zC : Int32) (vF : Value) (aI : Addr) (aR : Addr) (a1 : Addr) (t : Addr) (kb : ClassId) (us : List Value) (pk : Int32) (pz : Int32) (yb : Int32) (h0 : Heap) (v : Option Value) (h : Heap) (L : List Loc) : Prop := v = some (.int yb) ∧ Fr Z.heap.size L ∧ h = h0
theorem rm_sca (l : Launch) (Z : State) (a0 : Array Value) (hw : HW a0 Z) (zC : Int32) (SC : tSC Z zC) (PC : ¬ zC = (0 : Int32)) (vF : Value) (rF : vF = .null ∨ ∃ a, vF = .ref a) (SF : tSF Z vF) (aI : Addr) (SI : tSI Z aI) (aR : Addr) (SR : tSR Z aR) (a1 : Addr) (t : Addr) (kb : ClassId) (us : List Value) (pk : Int32) (pz : Int32) (yb : Int32) (h0 : Heap) (O0 : Old Z Z.heap.size h0) (Pe : Exa Z h0 a1 sT0) (Pc : Fld Z h0 a1 sT0 "coder" "B" (iv 0)) (Pv : Fld Z h0 a1 sT0 "value" "[B" (.ref t)) (Pa : Arv Z h0 t kb .byte pz us (.int 0)) (Pk : (¬ (pk < (0 : Int32)))) (Pz : (pk < pz)) (Pg : (us.getD (Int32.toNatClampNeg pk) (.int 0) = (.int (StrChars.lo8 yb)))) (Hb : (¬ (yb < (0 : Int32)))) (Jb : (¬ ((255 : Int32) < yb))) :
    Con l Z (⟨sT0, "charAt", "(I)C"⟩ : MethodName) jdk_42_method_56_code 2 (some .char) ({ frames := 3, cells := 0, slots := 0, locals := 40 } : Room) #[(.ref a1), (.int pk)] h0 (Q_sca Z zC vF aI aR a1 t kb us pk pz yb h0) := by
  refine Con.intro (plainFor_of_name pn3) ?_
  intro p e s m below meth c T0 X0 hx hby hml hown0 hnm hret hlk hZ0 e0
  have N0 := Fr.nil Z.heap.size
  refine castGo (g' := mkF m 0 #[.val (.ref a1), .val (.int pk)] []) (by first | rfl | (simp [entryFrame, mkF, argsToLocals, Value.category]; done)) ?_
  show Go _ _ _ _ (T0.setTop (mkF m 0 #[.val (.ref a1), .val (.int pk)] []))
  refine aL X0 hx (hb hby d_jdk_42m56_0) (q := 1) rfl rfl rfl ?_
  refine g_vi X0 hx hZ0 hown0 (wd61 hw) (wd62 hw) (notFace_of_selects (args := #[]) (mvT hZ0 (wd64 hw))) (wd64 hw) (wd63 hw) (by decide) Pe e0 (Con.back (W := 0) (rm_isl0 l Z a0 hw zC SC PC vF rF SF aI SI aR SR a1 h0 O0 Pc) hZ0 (wd65 hw) (wd20 hw) (by decide) (by decide)) (by rw [hml]; rfl) (lenOf pd4 rfl) rfl (Nat.le_of_eq rfl) (hb hby d_jdk_42m56_1) (q := 4) rfl (by decide) (by decide) ?_
  intro v460 T460 L460 X460 Q460
  obtain ⟨rfl, Nq460, e460⟩ := Q460
  have N460 := Fr.app N0 Nq460
  show Go _ _ _ _ (T460.setTop (mkF m 4 #[.val (.ref a1), .val (.int pk)] [(iv 1)]))
  refine ifN X460 hx (hb hby d_jdk_42m56_4) (q := 7) rfl (by decide) ?_
  refine aL X460 hx (hb hby d_jdk_42m56_7) (q := 8) rfl rfl rfl ?_
  refine g_getF X460 hx hZ0 hown0 (host := "") (Or.inl (wd45 hw)) Via.refl Pv e460 (hb hby d_jdk_42m56_8) (q := 11) rfl ?_
  intro T461 X461 e461
  refine iL X461 hx (hb hby d_jdk_42m56_11) (q := 12) rfl rfl ?_
  refine g_st X461 hx hZ0 hown0 (wd163 hw) (wd164 hw) (wd78 hw) (wd165 hw) (by decide) e461 (Con.back (W := 0) (rm_lca l Z a0 hw zC SC PC vF rF SF aI SI aR SR t kb us pk pz yb h0 O0 Pa Pk Pz Pg Hb Jb) hZ0 (wd165 hw) (wd78 hw) (by decide) (by decide)) (by rw [hml]; rfl) (lenOf pd19 rfl) rfl (Nat.le_of_eq rfl) (hb hby d_jdk_42m56_12) (q := 15) rfl (by decide) (by decide) ?_
  intro v462 T462 L462 X462 Q462
  obtain ⟨rfl, Nq462, e462⟩ := Q462
  have N462 := Fr.app N460 Nq462
  show Go _ _ _ _ (T462.setTop (mkF m 15 #[.val (.ref a1), .val (.int pk)] [(.int yb)]))
  refine endP X462 hlk (fun h => by rw [hret] at h; cases h) (lastN X462 hx (t := .char) (z' := yb) hret (by simp) (nar_of255 Hb Jb) (hb hby d_jdk_42m56_15)) ?_ (by decide) (by decide)
  rw [e462]
  exact ⟨rfl, N462, rfl⟩
theorem d_method_7_0 : decode method_7_code 0 = .ok (.iload_n 1, 1) := by decide +kernel
theorem d_method_7_1 : decode method_7_code 1 = .ok (.iload_n 2, 1) := by decide +kernel
theorem d_method_7_2 : decode method_7_code 2 = .ok (.if_icmp .lt 5, 3) := by decide +kernel
theorem d_method_7_7 : decode method_7_code 7 = .ok (.aload_n 0, 1) := by decide +kernel
theorem d_method_7_8 : decode method_7_code 8 = .ok (.iload_n 1, 1) := by decide +kernel
theorem d_method_7_9 : decode method_7_code 9 = .ok (.invokevirtual 7, 3) := by decide +kernel
theorem wd162 {a0 : Array Value} {Z : State} (hw : HW a0 Z) : ((Jvm.Cond.code ({ cls := "java/lang/String", name := "charAt", desc := "(I)C" } : Jvm.MethodName) jdk_42_method_56_code (2 : Nat) (Option.some Jvm.ClassFile.FieldType.char)) : Jvm.Cond).before a0 Z = true := hw _ (List.mem_of_getElem? (i := 162) rfl)
theorem pd20 : parseMethodDescriptor "(I)C" = some ⟨[.int], some .char⟩ := by decide +kernel
theorem wd161 {a0 : Array Value} {Z : State} (hw : HW a0 Z) : ((Jvm.Cond.selects "java/lang/String" ({ cls := "java/lang/String", name := "charAt", desc := "(I)C" } : Jvm.MethodName) ({ cls := "java/lang/String", name := "charAt", desc := "(I)C" } : Jvm.MethodName)) : Jvm.Cond).before a0 Z = true := hw _ (List.mem_of_getElem? (i := 161) rfl)
theorem wd158 {a0 : Array Value} {Z : State} (hw : HW a0 Z) : ((Jvm.Cond.methodLink "com/example/handoff/handoff/internal/MediaTypesEssencePinLaw" (7 : Nat) ({ cls := "java/lang/String", name := "charAt", desc := "(I)C" } : Jvm.MethodName)) : Jvm.Cond).before a0 Z = true := hw _ (List.mem_of_getElem? (i := 158) rfl)
theorem wd159 {a0 : Array Value} {Z : State} (hw : HW a0 Z) : ((Jvm.Cond.declares ({ cls := "java/lang/String", name := "charAt", desc := "(I)C" } : Jvm.MethodName)) : Jvm.Cond).before a0 Z = true := hw _ (List.mem_of_getElem? (i := 159) rfl)
theorem wd160 {a0 : Array Value} {Z : State} (hw : HW a0 Z) : ((Jvm.Cond.instanceMethod ({ cls := "java/lang/String", name := "charAt", desc := "(I)C" } : Jvm.MethodName)) : Jvm.Cond).before a0 Z = true := hw _ (List.mem_of_getElem? (i := 160) rfl)
theorem d_method_7_12 : decode method_7_code 12 = .ok (.aload_n 3, 1) := by decide +kernel
theorem d_method_7_13 : decode method_7_code 13 = .ok (.iload 4, 2) := by decide +kernel
theorem d_method_7_15 : decode method_7_code 15 = .ok (.iload_n 1, 1) := by decide +kernel
theorem d_method_7_16 : decode method_7_code 16 = .ok (.iadd, 1) := by decide +kernel
theorem d_method_7_17 : decode method_7_code 17 = .ok (.caload, 1) := by decide +kernel
theorem d_method_7_18 : decode method_7_code 18 = .ok (.invokestatic 13, 3) := by decide +kernel
theorem wd174 {a0 : Array Value} {Z : State} (hw : HW a0 Z) : ((Jvm.Cond.code ({ cls := "com/example/handoff/handoff/internal/MediaTypesEssencePinLaw", name := "lower", desc := "(C)C" } : Jvm.MethodName) method_3_code (1 : Nat) (Option.some Jvm.ClassFile.FieldType.char)) : Jvm.Cond).before a0 Z = true := hw _ (List.mem_of_getElem? (i := 174) rfl)
theorem wd3 {a0 : Array Value} {Z : State} (hw : HW a0 Z) : ((Jvm.Cond.initialized "com/example/handoff/handoff/internal/MediaTypesEssencePinLaw") : Jvm.Cond).before a0 Z = true := hw _ (List.mem_of_getElem? (i := 3) rfl)
theorem pd21 : parseMethodDescriptor "(C)C" = some ⟨[.char], some .char⟩ := by decide +kernel
theorem wd172 {a0 : Array Value} {Z : State} (hw : HW a0 Z) : ((Jvm.Cond.methodLink "com/example/handoff/handoff/internal/MediaTypesEssencePinLaw" (13 : Nat) ({ cls := "com/example/handoff/handoff/internal/MediaTypesEssencePinLaw", name := "lower", desc := "(C)C" } : Jvm.MethodName)) : Jvm.Cond).before a0 Z = true := hw _ (List.mem_of_getElem? (i := 172) rfl)
theorem wd173 {a0 : Array Value} {Z : State} (hw : HW a0 Z) : ((Jvm.Cond.static ({ cls := "com/example/handoff/handoff/internal/MediaTypesEssencePinLaw", name := "lower", desc := "(C)C" } : Jvm.MethodName)) : Jvm.Cond).before a0 Z = true := hw _ (List.mem_of_getElem? (i := 173) rfl)
theorem d_method_7_21 : decode method_7_code 21 = .ok (.if_icmp .ne 7, 3) := by decide +kernel
theorem d_method_7_24 : decode method_7_code 24 = .ok (.iconst 1, 1) := by decide +kernel
theorem d_method_7_25 : decode method_7_code 25 = .ok (.goto 4, 3) := by decide +kernel
theorem d_method_7_29 : decode method_7_code 29 = .ok (.ireturn, 1) := by decide +kernel
theorem d_method_7_5 : decode method_7_code 5 = .ok (.iconst 1, 1) := by decide +kernel
theorem d_method_7_6 : decode method_7_code 6 = .ok (.ireturn, 1) := by decide +kernel
def Q_at0 (Z : State) (zC : Int32) (vF : Value) (aI : Addr) (aR : Addr) (a1 : Addr) (t : Addr) (kb : ClassId) (us : List Value) (pN : Int32) (pf : Int32) (s1 : Addr) (ks : ClassId) (c0 : Int32) (c1 : Int32) (c2 : Int32) (c3 : Int32) (c4 : Int32) (h0 : Heap) (v : Option Value) (h : Heap) (L : List Loc) : Prop := v = some (iv 1) ∧ Fr Z.heap.size L ∧ h = h0
theorem rm_at0 (l : Launch) (Z : State) (a0 : Array Value) (hw : HW a0 Z) (zC : Int32) (SC : tSC Z zC) (PC : ¬ zC = (0 : Int32)) (vF : Value) (rF : vF = .null ∨ ∃ a, vF = .ref a) (SF : tSF Z vF) (aI : Addr) (SI : tSI Z aI) (aR : Addr) (SR : tSR Z aR) (a1 : Addr) (t : Addr) (kb : ClassId) (us : List Value) (pN : Int32) (pf : Int32) (s1 : Addr) (ks : ClassId) (c0 : Int32) (c1 : Int32) (c2 : Int32) (c3 : Int32) (c4 : Int32) (h0 : Heap) (O0 : Old Z Z.heap.size h0) (Pe : Exa Z h0 a1 sT0) (Pc : Fld Z h0 a1 sT0 "coder" "B" (iv 0)) (Pv : Fld Z h0 a1 sT0 "value" "[B" (.ref t)) (Pa : Arv Z h0 t kb .byte pN us (.int 0)) (PS : Arv Z h0 s1 ks .char (5 : Int32) [(.int c0), (.int c1), (.int c2), (.int c3), (.int c4)] (.int 0)) (PA : (ATP c0 c1 c2 c3 c4 pf pN us)) (H0 : (¬ (c0 < (0 : Int32)))) (J0 : (¬ ((255 : Int32) < c0))) (H1 : (¬ (c1 < (0 : Int32)))) (J1 : (¬ ((255 : Int32) < c1))) (H2 : (¬ (c2 < (0 : Int32)))) (J2 : (¬ ((255 : Int32) < c2))) (H3 : (¬ (c3 < (0 : Int32)))) (J3 : (¬ ((255 : Int32) < c3))) (H4 : (¬ (c4 < (0 : Int32)))) (J4 : (¬ ((255 : Int32) < c4))) :
    Con l Z (⟨sT1, "at", "(Ljava/lang/String;II[CI)Z"⟩ : MethodName) method_7_code 5 (some .boolean) ({ frames := 4, cells := 0, slots := 0, locals := 53 } : Room) #[(.ref a1), (iv 0), (.int pN), (.ref s1), (.int pf)] h0 (Q_at0 Z zC vF aI aR a1 t kb us pN pf s1 ks c0 c1 c2 c3 c4 h0) := by
  refine Con.intro (plainFor_of_name pn0) ?_
  intro p e s m below meth c T0 X0 hx hby hml hown0 hnm hret hlk hZ0 e0
  have N0 := Fr.nil Z.heap.size
  refine castGo (g' := mkF m 0 #[.val (.ref a1), .val (iv 0), .val (.int pN), .val (.ref s1), .val (.int pf)] []) (by first | rfl | (simp [entryFrame, mkF, argsToLocals, Value.category]; done)) ?_
  have HR5 : ∀ x ∈ ([c0, c1, c2, c3, c4] : List Int32), ¬ x < 0 ∧ ¬ (255 : Int32) < x := (alS ⟨H0, J0⟩ (alS ⟨H1, J1⟩ (alS ⟨H2, J2⟩ (alS ⟨H3, J3⟩ (alS ⟨H4, J4⟩ al0)))))
  show Go _ _ _ _ (T0.setTop (mkF m 0 #[.val (.ref a1), .val (iv 0), .val (.int pN), .val (.ref s1), .val (.int pf)] []))
  refine iL X0 hx (hb hby d_method_7_0) (q := 1) rfl rfl ?_
  refine iL X0 hx (hb hby d_method_7_1) (q := 2) rfl rfl ?_
  by_cases hc463 : (0 : Int32) < pN
  · refine icY X0 hx (hb hby d_method_7_2) (q := 7) (by decide) (by decide) (tlt hc463).1 ?_
    obtain ⟨ix, yy, hfi, hik, hyy, hv⟩ := PA 0 hc463 (by decide)
    have ry := rng_at HR5 (n := 5) rfl hik hyy
    refine aL X0 hx (hb hby d_method_7_7) (q := 8) rfl rfl rfl ?_
    refine iL X0 hx (hb hby d_method_7_8) (q := 9) rfl rfl ?_
    refine g_vi X0 hx hZ0 hown0 (wd158 hw) (wd159 hw) (notFace_of_selects (args := #[]) (mvT hZ0 (wd161 hw))) (wd161 hw) (wd160 hw) (by decide) Pe e0 (Con.back (W := 0) (rm_sca l Z a0 hw zC SC PC vF rF SF aI SI aR SR a1 t kb us (0 : Int32) pN (low yy) h0 O0 Pe Pc Pv Pa (by decide : ¬ ((0 : Int32) < (0 : Int32))) hc463 hv (low_rng ry.1 ry.2).1 (low_rng ry.1 ry.2).2) hZ0 (wd162 hw) (wd20 hw) (by decide) (by decide)) (by rw [hml]; rfl) (lenOf pd20 rfl) rfl (Nat.le_of_eq rfl) (hb hby d_method_7_9) (q := 12) rfl (by decide) (by decide) ?_
    intro v464 T464 L464 X464 Q464
    obtain ⟨rfl, Nq464, e464⟩ := Q464
    have N464 := Fr.app N0 Nq464
    show Go _ _ _ _ (T464.setTop (mkF m 12 #[.val (.ref a1), .val (iv 0), .val (.int pN), .val (.ref s1), .val (.int pf)] [(.int (low yy))]))
    refine aL X464 hx (hb hby d_method_7_12) (q := 13) rfl rfl rfl ?_
    refine iLw X464 hx (hb hby d_method_7_13) (q := 15) rfl rfl ?_
    refine iL X464 hx (hb hby d_method_7_15) (q := 16) rfl rfl ?_
    refine g_iadd X464 hx (hb hby d_method_7_16) (q := 17) rfl rfl ?_
    refine castGo (g' := mkF m 17 #[.val (.ref a1), .val (iv 0), .val (.int pN), .val (.ref s1), .val (.int pf)] [(.int (Int32.ofNat (ix + 0))), (.ref s1), (.int (low yy))]) (by rw [(show Int32.ofNat (ix + 0) = (pf + (0 : Int32)) from by rw [hfi, Int32.ofNat_add]; rfl)]) ?_
    refine g_ldC X464 hx hZ0 PS (i := (ix + 0)) (on_clamp (show (ix + 0) < 2147483648 from by omega)) (on_nn (show (ix + 0) < 2147483648 from by omega)) (on_lt (n := 5) hik (by decide)) (v := (.int yy)) (by rw [hyy]; exact map_getD (cs := ([c0, c1, c2, c3, c4] : List Int32)) (f := Value.int) (n := 5) rfl hik) e464 (hb hby d_method_7_17) (q := 18) rfl ?_
    refine g_st X464 hx hZ0 hown0 (wd172 hw) (wd173 hw) (wd3 hw) (wd174 hw) (by decide) e464 (Con.back (W := 1) (rm_lower l Z a0 hw zC SC PC vF rF SF aI SI aR SR yy h0 O0 ry.1 ry.2) hZ0 (wd174 hw) (wd3 hw) (by decide) (by decide)) (by rw [hml]; rfl) (lenOf pd21 rfl) rfl (Nat.le_of_eq rfl) (hb hby d_method_7_18) (q := 21) rfl (by decide) (by decide) ?_
    intro v465 T465 L465 X465 Q465
    obtain ⟨rfl, Nq465, e465⟩ := Q465
    have N465 := Fr.app N464 Nq465
    show Go _ _ _ _ (T465.setTop (mkF m 21 #[.val (.ref a1), .val (iv 0), .val (.int pN), .val (.ref s1), .val (.int pf)] [(.int (low yy)), (.int (low yy))]))
    refine icN X465 hx (hb hby d_method_7_21) (q := 24) rfl (teq rfl).2 ?_
    refine cI X465 hx (hb hby d_method_7_24) (q := 25) rfl (z := (1 : Int32)) rfl ?_
    refine g_goto X465 hx (hb hby d_method_7_25) (q := 29) (by decide) (by decide) ?_
    refine endP X465 hlk (fun h => by rw [hret] at h; cases h) (lastN X465 hx (t := .boolean) (z' := (1 : Int32)) hret (by simp) (by decide) (hb hby d_method_7_29)) ?_ (by decide) (by decide)
    rw [e465]
    exact ⟨rfl, N465, rfl⟩
  · refine icN X0 hx (hb hby d_method_7_2) (q := 5) rfl (flt hc463).1 ?_
    refine cI X0 hx (hb hby d_method_7_5) (q := 6) rfl (z := (1 : Int32)) rfl ?_
    refine endP X0 hlk (fun h => by rw [hret] at h; cases h) (lastN X0 hx (t := .boolean) (z' := (1 : Int32)) hret (by simp) (by decide) (hb hby d_method_7_6)) ?_ (by decide) (by decide)
    rw [e0]
    exact ⟨rfl, N0, rfl⟩
def Q_at1 (Z : State) (zC : Int32) (vF : Value) (aI : Addr) (aR : Addr) (a1 : Addr) (t : Addr) (kb : ClassId) (us : List Value) (pN : Int32) (pf : Int32) (s1 : Addr) (ks : ClassId) (c0 : Int32) (c1 : Int32) (c2 : Int32) (c3 : Int32) (c4 : Int32) (h0 : Heap) (v : Option Value) (h : Heap) (L : List Loc) : Prop := v = some (iv 1) ∧ Fr Z.heap.size L ∧ h = h0
theorem rm_at1 (l : Launch) (Z : State) (a0 : Array Value) (hw : HW a0 Z) (zC : Int32) (SC : tSC Z zC) (PC : ¬ zC = (0 : Int32)) (vF : Value) (rF : vF = .null ∨ ∃ a, vF = .ref a) (SF : tSF Z vF) (aI : Addr) (SI : tSI Z aI) (aR : Addr) (SR : tSR Z aR) (a1 : Addr) (t : Addr) (kb : ClassId) (us : List Value) (pN : Int32) (pf : Int32) (s1 : Addr) (ks : ClassId) (c0 : Int32) (c1 : Int32) (c2 : Int32) (c3 : Int32) (c4 : Int32) (h0 : Heap) (O0 : Old Z Z.heap.size h0) (Pe : Exa Z h0 a1 sT0) (Pc : Fld Z h0 a1 sT0 "coder" "B" (iv 0)) (Pv : Fld Z h0 a1 sT0 "value" "[B" (.ref t)) (Pa : Arv Z h0 t kb .byte pN us (.int 0)) (PS : Arv Z h0 s1 ks .char (5 : Int32) [(.int c0), (.int c1), (.int c2), (.int c3), (.int c4)] (.int 0)) (PA : (ATP c0 c1 c2 c3 c4 pf pN us)) (H0 : (¬ (c0 < (0 : Int32)))) (J0 : (¬ ((255 : Int32) < c0))) (H1 : (¬ (c1 < (0 : Int32)))) (J1 : (¬ ((255 : Int32) < c1))) (H2 : (¬ (c2 < (0 : Int32)))) (J2 : (¬ ((255 : Int32) < c2))) (H3 : (¬ (c3 < (0 : Int32)))) (J3 : (¬ ((255 : Int32) < c3))) (H4 : (¬ (c4 < (0 : Int32)))) (J4 : (¬ ((255 : Int32) < c4))) :
    Con l Z (⟨sT1, "at", "(Ljava/lang/String;II[CI)Z"⟩ : MethodName) method_7_code 5 (some .boolean) ({ frames := 4, cells := 0, slots := 0, locals := 53 } : Room) #[(.ref a1), (iv 1), (.int pN), (.ref s1), (.int pf)] h0 (Q_at1 Z zC vF aI aR a1 t kb us pN pf s1 ks c0 c1 c2 c3 c4 h0) := by
  refine Con.intro (plainFor_of_name pn0) ?_
  intro p e s m below meth c T0 X0 hx hby hml hown0 hnm hret hlk hZ0 e0
  have N0 := Fr.nil Z.heap.size
  refine castGo (g' := mkF m 0 #[.val (.ref a1), .val (iv 1), .val (.int pN), .val (.ref s1), .val (.int pf)] []) (by first | rfl | (simp [entryFrame, mkF, argsToLocals, Value.category]; done)) ?_
  have HR5 : ∀ x ∈ ([c0, c1, c2, c3, c4] : List Int32), ¬ x < 0 ∧ ¬ (255 : Int32) < x := (alS ⟨H0, J0⟩ (alS ⟨H1, J1⟩ (alS ⟨H2, J2⟩ (alS ⟨H3, J3⟩ (alS ⟨H4, J4⟩ al0)))))
  show Go _ _ _ _ (T0.setTop (mkF m 0 #[.val (.ref a1), .val (iv 1), .val (.int pN), .val (.ref s1), .val (.int pf)] []))
  refine iL X0 hx (hb hby d_method_7_0) (q := 1) rfl rfl ?_
  refine iL X0 hx (hb hby d_method_7_1) (q := 2) rfl rfl ?_
  by_cases hc466 : (1 : Int32) < pN
  · refine icY X0 hx (hb hby d_method_7_2) (q := 7) (by decide) (by decide) (tlt hc466).1 ?_
    obtain ⟨ix, yy, hfi, hik, hyy, hv⟩ := PA 1 hc466 (by decide)
    have ry := rng_at HR5 (n := 5) rfl hik hyy
    refine aL X0 hx (hb hby d_method_7_7) (q := 8) rfl rfl rfl ?_
    refine iL X0 hx (hb hby d_method_7_8) (q := 9) rfl rfl ?_
    refine g_vi X0 hx hZ0 hown0 (wd158 hw) (wd159 hw) (notFace_of_selects (args := #[]) (mvT hZ0 (wd161 hw))) (wd161 hw) (wd160 hw) (by decide) Pe e0 (Con.back (W := 0) (rm_sca l Z a0 hw zC SC PC vF rF SF aI SI aR SR a1 t kb us (1 : Int32) pN (low yy) h0 O0 Pe Pc Pv Pa (by decide : ¬ ((1 : Int32) < (0 : Int32))) hc466 hv (low_rng ry.1 ry.2).1 (low_rng ry.1 ry.2).2) hZ0 (wd162 hw) (wd20 hw) (by decide) (by decide)) (by rw [hml]; rfl) (lenOf pd20 rfl) rfl (Nat.le_of_eq rfl) (hb hby d_method_7_9) (q := 12) rfl (by decide) (by decide) ?_
    intro v467 T467 L467 X467 Q467
    obtain ⟨rfl, Nq467, e467⟩ := Q467
    have N467 := Fr.app N0 Nq467
    show Go _ _ _ _ (T467.setTop (mkF m 12 #[.val (.ref a1), .val (iv 1), .val (.int pN), .val (.ref s1), .val (.int pf)] [(.int (low yy))]))
    refine aL X467 hx (hb hby d_method_7_12) (q := 13) rfl rfl rfl ?_
    refine iLw X467 hx (hb hby d_method_7_13) (q := 15) rfl rfl ?_
    refine iL X467 hx (hb hby d_method_7_15) (q := 16) rfl rfl ?_
    refine g_iadd X467 hx (hb hby d_method_7_16) (q := 17) rfl rfl ?_
    refine castGo (g' := mkF m 17 #[.val (.ref a1), .val (iv 1), .val (.int pN), .val (.ref s1), .val (.int pf)] [(.int (Int32.ofNat (ix + 1))), (.ref s1), (.int (low yy))]) (by rw [(show Int32.ofNat (ix + 1) = (pf + (1 : Int32)) from by rw [hfi, Int32.ofNat_add]; rfl)]) ?_
    refine g_ldC X467 hx hZ0 PS (i := (ix + 1)) (on_clamp (show (ix + 1) < 2147483648 from by omega)) (on_nn (show (ix + 1) < 2147483648 from by omega)) (on_lt (n := 5) hik (by decide)) (v := (.int yy)) (by rw [hyy]; exact map_getD (cs := ([c0, c1, c2, c3, c4] : List Int32)) (f := Value.int) (n := 5) rfl hik) e467 (hb hby d_method_7_17) (q := 18) rfl ?_
    refine g_st X467 hx hZ0 hown0 (wd172 hw) (wd173 hw) (wd3 hw) (wd174 hw) (by decide) e467 (Con.back (W := 1) (rm_lower l Z a0 hw zC SC PC vF rF SF aI SI aR SR yy h0 O0 ry.1 ry.2) hZ0 (wd174 hw) (wd3 hw) (by decide) (by decide)) (by rw [hml]; rfl) (lenOf pd21 rfl) rfl (Nat.le_of_eq rfl) (hb hby d_method_7_18) (q := 21) rfl (by decide) (by decide) ?_
    intro v468 T468 L468 X468 Q468
    obtain ⟨rfl, Nq468, e468⟩ := Q468
    have N468 := Fr.app N467 Nq468
    show Go _ _ _ _ (T468.setTop (mkF m 21 #[.val (.ref a1), .val (iv 1), .val (.int pN), .val (.ref s1), .val (.int pf)] [(.int (low yy)), (.int (low yy))]))
    refine icN X468 hx (hb hby d_method_7_21) (q := 24) rfl (teq rfl).2 ?_
    refine cI X468 hx (hb hby d_method_7_24) (q := 25) rfl (z := (1 : Int32)) rfl ?_
    refine g_goto X468 hx (hb hby d_method_7_25) (q := 29) (by decide) (by decide) ?_
    refine endP X468 hlk (fun h => by rw [hret] at h; cases h) (lastN X468 hx (t := .boolean) (z' := (1 : Int32)) hret (by simp) (by decide) (hb hby d_method_7_29)) ?_ (by decide) (by decide)
    rw [e468]
    exact ⟨rfl, N468, rfl⟩
  · refine icN X0 hx (hb hby d_method_7_2) (q := 5) rfl (flt hc466).1 ?_
    refine cI X0 hx (hb hby d_method_7_5) (q := 6) rfl (z := (1 : Int32)) rfl ?_
    refine endP X0 hlk (fun h => by rw [hret] at h; cases h) (lastN X0 hx (t := .boolean) (z' := (1 : Int32)) hret (by simp) (by decide) (hb hby d_method_7_6)) ?_ (by decide) (by decide)
    rw [e0]
    exact ⟨rfl, N0, rfl⟩
def Q_at2 (Z : State) (zC : Int32) (vF : Value) (aI : Addr) (aR : Addr) (a1 : Addr) (t : Addr) (kb : ClassId) (us : List Value) (pN : Int32) (pf : Int32) (s1 : Addr) (ks : ClassId) (c0 : Int32) (c1 : Int32) (c2 : Int32) (c3 : Int32) (c4 : Int32) (h0 : Heap) (v : Option Value) (h : Heap) (L : List Loc) : Prop := v = some (iv 1) ∧ Fr Z.heap.size L ∧ h = h0
theorem rm_at2 (l : Launch) (Z : State) (a0 : Array Value) (hw : HW a0 Z) (zC : Int32) (SC : tSC Z zC) (PC : ¬ zC = (0 : Int32)) (vF : Value) (rF : vF = .null ∨ ∃ a, vF = .ref a) (SF : tSF Z vF) (aI : Addr) (SI : tSI Z aI) (aR : Addr) (SR : tSR Z aR) (a1 : Addr) (t : Addr) (kb : ClassId) (us : List Value) (pN : Int32) (pf : Int32) (s1 : Addr) (ks : ClassId) (c0 : Int32) (c1 : Int32) (c2 : Int32) (c3 : Int32) (c4 : Int32) (h0 : Heap) (O0 : Old Z Z.heap.size h0) (Pe : Exa Z h0 a1 sT0) (Pc : Fld Z h0 a1 sT0 "coder" "B" (iv 0)) (Pv : Fld Z h0 a1 sT0 "value" "[B" (.ref t)) (Pa : Arv Z h0 t kb .byte pN us (.int 0)) (PS : Arv Z h0 s1 ks .char (5 : Int32) [(.int c0), (.int c1), (.int c2), (.int c3), (.int c4)] (.int 0)) (PA : (ATP c0 c1 c2 c3 c4 pf pN us)) (H0 : (¬ (c0 < (0 : Int32)))) (J0 : (¬ ((255 : Int32) < c0))) (H1 : (¬ (c1 < (0 : Int32)))) (J1 : (¬ ((255 : Int32) < c1))) (H2 : (¬ (c2 < (0 : Int32)))) (J2 : (¬ ((255 : Int32) < c2))) (H3 : (¬ (c3 < (0 : Int32)))) (J3 : (¬ ((255 : Int32) < c3))) (H4 : (¬ (c4 < (0 : Int32)))) (J4 : (¬ ((255 : Int32) < c4))) :
    Con l Z (⟨sT1, "at", "(Ljava/lang/String;II[CI)Z"⟩ : MethodName) method_7_code 5 (some .boolean) ({ frames := 4, cells := 0, slots := 0, locals := 53 } : Room) #[(.ref a1), (iv 2), (.int pN), (.ref s1), (.int pf)] h0 (Q_at2 Z zC vF aI aR a1 t kb us pN pf s1 ks c0 c1 c2 c3 c4 h0) := by
  refine Con.intro (plainFor_of_name pn0) ?_
  intro p e s m below meth c T0 X0 hx hby hml hown0 hnm hret hlk hZ0 e0
  have N0 := Fr.nil Z.heap.size
  refine castGo (g' := mkF m 0 #[.val (.ref a1), .val (iv 2), .val (.int pN), .val (.ref s1), .val (.int pf)] []) (by first | rfl | (simp [entryFrame, mkF, argsToLocals, Value.category]; done)) ?_
  have HR5 : ∀ x ∈ ([c0, c1, c2, c3, c4] : List Int32), ¬ x < 0 ∧ ¬ (255 : Int32) < x := (alS ⟨H0, J0⟩ (alS ⟨H1, J1⟩ (alS ⟨H2, J2⟩ (alS ⟨H3, J3⟩ (alS ⟨H4, J4⟩ al0)))))
  show Go _ _ _ _ (T0.setTop (mkF m 0 #[.val (.ref a1), .val (iv 2), .val (.int pN), .val (.ref s1), .val (.int pf)] []))
  refine iL X0 hx (hb hby d_method_7_0) (q := 1) rfl rfl ?_
  refine iL X0 hx (hb hby d_method_7_1) (q := 2) rfl rfl ?_
  by_cases hc469 : (2 : Int32) < pN
  · refine icY X0 hx (hb hby d_method_7_2) (q := 7) (by decide) (by decide) (tlt hc469).1 ?_
    obtain ⟨ix, yy, hfi, hik, hyy, hv⟩ := PA 2 hc469 (by decide)
    have ry := rng_at HR5 (n := 5) rfl hik hyy
    refine aL X0 hx (hb hby d_method_7_7) (q := 8) rfl rfl rfl ?_
    refine iL X0 hx (hb hby d_method_7_8) (q := 9) rfl rfl ?_
    refine g_vi X0 hx hZ0 hown0 (wd158 hw) (wd159 hw) (notFace_of_selects (args := #[]) (mvT hZ0 (wd161 hw))) (wd161 hw) (wd160 hw) (by decide) Pe e0 (Con.back (W := 0) (rm_sca l Z a0 hw zC SC PC vF rF SF aI SI aR SR a1 t kb us (2 : Int32) pN (low yy) h0 O0 Pe Pc Pv Pa (by decide : ¬ ((2 : Int32) < (0 : Int32))) hc469 hv (low_rng ry.1 ry.2).1 (low_rng ry.1 ry.2).2) hZ0 (wd162 hw) (wd20 hw) (by decide) (by decide)) (by rw [hml]; rfl) (lenOf pd20 rfl) rfl (Nat.le_of_eq rfl) (hb hby d_method_7_9) (q := 12) rfl (by decide) (by decide) ?_
    intro v470 T470 L470 X470 Q470
    obtain ⟨rfl, Nq470, e470⟩ := Q470
    have N470 := Fr.app N0 Nq470
    show Go _ _ _ _ (T470.setTop (mkF m 12 #[.val (.ref a1), .val (iv 2), .val (.int pN), .val (.ref s1), .val (.int pf)] [(.int (low yy))]))
    refine aL X470 hx (hb hby d_method_7_12) (q := 13) rfl rfl rfl ?_
    refine iLw X470 hx (hb hby d_method_7_13) (q := 15) rfl rfl ?_
    refine iL X470 hx (hb hby d_method_7_15) (q := 16) rfl rfl ?_
    refine g_iadd X470 hx (hb hby d_method_7_16) (q := 17) rfl rfl ?_
    refine castGo (g' := mkF m 17 #[.val (.ref a1), .val (iv 2), .val (.int pN), .val (.ref s1), .val (.int pf)] [(.int (Int32.ofNat (ix + 2))), (.ref s1), (.int (low yy))]) (by rw [(show Int32.ofNat (ix + 2) = (pf + (2 : Int32)) from by rw [hfi, Int32.ofNat_add]; rfl)]) ?_
    refine g_ldC X470 hx hZ0 PS (i := (ix + 2)) (on_clamp (show (ix + 2) < 2147483648 from by omega)) (on_nn (show (ix + 2) < 2147483648 from by omega)) (on_lt (n := 5) hik (by decide)) (v := (.int yy)) (by rw [hyy]; exact map_getD (cs := ([c0, c1, c2, c3, c4] : List Int32)) (f := Value.int) (n := 5) rfl hik) e470 (hb hby d_method_7_17) (q := 18) rfl ?_
    refine g_st X470 hx hZ0 hown0 (wd172 hw) (wd173 hw) (wd3 hw) (wd174 hw) (by decide) e470 (Con.back (W := 1) (rm_lower l Z a0 hw zC SC PC vF rF SF aI SI aR SR yy h0 O0 ry.1 ry.2) hZ0 (wd174 hw) (wd3 hw) (by decide) (by decide)) (by rw [hml]; rfl) (lenOf pd21 rfl) rfl (Nat.le_of_eq rfl) (hb hby d_method_7_18) (q := 21) rfl (by decide) (by decide) ?_
    intro v471 T471 L471 X471 Q471
    obtain ⟨rfl, Nq471, e471⟩ := Q471
    have N471 := Fr.app N470 Nq471
    show Go _ _ _ _ (T471.setTop (mkF m 21 #[.val (.ref a1), .val (iv 2), .val (.int pN), .val (.ref s1), .val (.int pf)] [(.int (low yy)), (.int (low yy))]))
    refine icN X471 hx (hb hby d_method_7_21) (q := 24) rfl (teq rfl).2 ?_
    refine cI X471 hx (hb hby d_method_7_24) (q := 25) rfl (z := (1 : Int32)) rfl ?_
    refine g_goto X471 hx (hb hby d_method_7_25) (q := 29) (by decide) (by decide) ?_
    refine endP X471 hlk (fun h => by rw [hret] at h; cases h) (lastN X471 hx (t := .boolean) (z' := (1 : Int32)) hret (by simp) (by decide) (hb hby d_method_7_29)) ?_ (by decide) (by decide)
    rw [e471]
    exact ⟨rfl, N471, rfl⟩
  · refine icN X0 hx (hb hby d_method_7_2) (q := 5) rfl (flt hc469).1 ?_
    refine cI X0 hx (hb hby d_method_7_5) (q := 6) rfl (z := (1 : Int32)) rfl ?_
    refine endP X0 hlk (fun h => by rw [hret] at h; cases h) (lastN X0 hx (t := .boolean) (z' := (1 : Int32)) hret (by simp) (by decide) (hb hby d_method_7_6)) ?_ (by decide) (by decide)
    rw [e0]
    exact ⟨rfl, N0, rfl⟩
def Q_at3 (Z : State) (zC : Int32) (vF : Value) (aI : Addr) (aR : Addr) (a1 : Addr) (t : Addr) (kb : ClassId) (us : List Value) (pN : Int32) (pf : Int32) (s1 : Addr) (ks : ClassId) (c0 : Int32) (c1 : Int32) (c2 : Int32) (c3 : Int32) (c4 : Int32) (h0 : Heap) (v : Option Value) (h : Heap) (L : List Loc) : Prop := v = some (iv 1) ∧ Fr Z.heap.size L ∧ h = h0
theorem rm_at3 (l : Launch) (Z : State) (a0 : Array Value) (hw : HW a0 Z) (zC : Int32) (SC : tSC Z zC) (PC : ¬ zC = (0 : Int32)) (vF : Value) (rF : vF = .null ∨ ∃ a, vF = .ref a) (SF : tSF Z vF) (aI : Addr) (SI : tSI Z aI) (aR : Addr) (SR : tSR Z aR) (a1 : Addr) (t : Addr) (kb : ClassId) (us : List Value) (pN : Int32) (pf : Int32) (s1 : Addr) (ks : ClassId) (c0 : Int32) (c1 : Int32) (c2 : Int32) (c3 : Int32) (c4 : Int32) (h0 : Heap) (O0 : Old Z Z.heap.size h0) (Pe : Exa Z h0 a1 sT0) (Pc : Fld Z h0 a1 sT0 "coder" "B" (iv 0)) (Pv : Fld Z h0 a1 sT0 "value" "[B" (.ref t)) (Pa : Arv Z h0 t kb .byte pN us (.int 0)) (PS : Arv Z h0 s1 ks .char (5 : Int32) [(.int c0), (.int c1), (.int c2), (.int c3), (.int c4)] (.int 0)) (PA : (ATP c0 c1 c2 c3 c4 pf pN us)) (H0 : (¬ (c0 < (0 : Int32)))) (J0 : (¬ ((255 : Int32) < c0))) (H1 : (¬ (c1 < (0 : Int32)))) (J1 : (¬ ((255 : Int32) < c1))) (H2 : (¬ (c2 < (0 : Int32)))) (J2 : (¬ ((255 : Int32) < c2))) (H3 : (¬ (c3 < (0 : Int32)))) (J3 : (¬ ((255 : Int32) < c3))) (H4 : (¬ (c4 < (0 : Int32)))) (J4 : (¬ ((255 : Int32) < c4))) :
    Con l Z (⟨sT1, "at", "(Ljava/lang/String;II[CI)Z"⟩ : MethodName) method_7_code 5 (some .boolean) ({ frames := 4, cells := 0, slots := 0, locals := 53 } : Room) #[(.ref a1), (iv 3), (.int pN), (.ref s1), (.int pf)] h0 (Q_at3 Z zC vF aI aR a1 t kb us pN pf s1 ks c0 c1 c2 c3 c4 h0) := by
  refine Con.intro (plainFor_of_name pn0) ?_
  intro p e s m below meth c T0 X0 hx hby hml hown0 hnm hret hlk hZ0 e0
  have N0 := Fr.nil Z.heap.size
  refine castGo (g' := mkF m 0 #[.val (.ref a1), .val (iv 3), .val (.int pN), .val (.ref s1), .val (.int pf)] []) (by first | rfl | (simp [entryFrame, mkF, argsToLocals, Value.category]; done)) ?_
  have HR5 : ∀ x ∈ ([c0, c1, c2, c3, c4] : List Int32), ¬ x < 0 ∧ ¬ (255 : Int32) < x := (alS ⟨H0, J0⟩ (alS ⟨H1, J1⟩ (alS ⟨H2, J2⟩ (alS ⟨H3, J3⟩ (alS ⟨H4, J4⟩ al0)))))
  show Go _ _ _ _ (T0.setTop (mkF m 0 #[.val (.ref a1), .val (iv 3), .val (.int pN), .val (.ref s1), .val (.int pf)] []))
  refine iL X0 hx (hb hby d_method_7_0) (q := 1) rfl rfl ?_
  refine iL X0 hx (hb hby d_method_7_1) (q := 2) rfl rfl ?_
  by_cases hc472 : (3 : Int32) < pN
  · refine icY X0 hx (hb hby d_method_7_2) (q := 7) (by decide) (by decide) (tlt hc472).1 ?_
    obtain ⟨ix, yy, hfi, hik, hyy, hv⟩ := PA 3 hc472 (by decide)
    have ry := rng_at HR5 (n := 5) rfl hik hyy
    refine aL X0 hx (hb hby d_method_7_7) (q := 8) rfl rfl rfl ?_
    refine iL X0 hx (hb hby d_method_7_8) (q := 9) rfl rfl ?_
    refine g_vi X0 hx hZ0 hown0 (wd158 hw) (wd159 hw) (notFace_of_selects (args := #[]) (mvT hZ0 (wd161 hw))) (wd161 hw) (wd160 hw) (by decide) Pe e0 (Con.back (W := 0) (rm_sca l Z a0 hw zC SC PC vF rF SF aI SI aR SR a1 t kb us (3 : Int32) pN (low yy) h0 O0 Pe Pc Pv Pa (by decide : ¬ ((3 : Int32) < (0 : Int32))) hc472 hv (low_rng ry.1 ry.2).1 (low_rng ry.1 ry.2).2) hZ0 (wd162 hw) (wd20 hw) (by decide) (by decide)) (by rw [hml]; rfl) (lenOf pd20 rfl) rfl (Nat.le_of_eq rfl) (hb hby d_method_7_9) (q := 12) rfl (by decide) (by decide) ?_
    intro v473 T473 L473 X473 Q473
    obtain ⟨rfl, Nq473, e473⟩ := Q473
    have N473 := Fr.app N0 Nq473
    show Go _ _ _ _ (T473.setTop (mkF m 12 #[.val (.ref a1), .val (iv 3), .val (.int pN), .val (.ref s1), .val (.int pf)] [(.int (low yy))]))
    refine aL X473 hx (hb hby d_method_7_12) (q := 13) rfl rfl rfl ?_
    refine iLw X473 hx (hb hby d_method_7_13) (q := 15) rfl rfl ?_
    refine iL X473 hx (hb hby d_method_7_15) (q := 16) rfl rfl ?_
    refine g_iadd X473 hx (hb hby d_method_7_16) (q := 17) rfl rfl ?_
    refine castGo (g' := mkF m 17 #[.val (.ref a1), .val (iv 3), .val (.int pN), .val (.ref s1), .val (.int pf)] [(.int (Int32.ofNat (ix + 3))), (.ref s1), (.int (low yy))]) (by rw [(show Int32.ofNat (ix + 3) = (pf + (3 : Int32)) from by rw [hfi, Int32.ofNat_add]; rfl)]) ?_
    refine g_ldC X473 hx hZ0 PS (i := (ix + 3)) (on_clamp (show (ix + 3) < 2147483648 from by omega)) (on_nn (show (ix + 3) < 2147483648 from by omega)) (on_lt (n := 5) hik (by decide)) (v := (.int yy)) (by rw [hyy]; exact map_getD (cs := ([c0, c1, c2, c3, c4] : List Int32)) (f := Value.int) (n := 5) rfl hik) e473 (hb hby d_method_7_17) (q := 18) rfl ?_
    refine g_st X473 hx hZ0 hown0 (wd172 hw) (wd173 hw) (wd3 hw) (wd174 hw) (by decide) e473 (Con.back (W := 1) (rm_lower l Z a0 hw zC SC PC vF rF SF aI SI aR SR yy h0 O0 ry.1 ry.2) hZ0 (wd174 hw) (wd3 hw) (by decide) (by decide)) (by rw [hml]; rfl) (lenOf pd21 rfl) rfl (Nat.le_of_eq rfl) (hb hby d_method_7_18) (q := 21) rfl (by decide) (by decide) ?_
    intro v474 T474 L474 X474 Q474
    obtain ⟨rfl, Nq474, e474⟩ := Q474
    have N474 := Fr.app N473 Nq474
    show Go _ _ _ _ (T474.setTop (mkF m 21 #[.val (.ref a1), .val (iv 3), .val (.int pN), .val (.ref s1), .val (.int pf)] [(.int (low yy)), (.int (low yy))]))
    refine icN X474 hx (hb hby d_method_7_21) (q := 24) rfl (teq rfl).2 ?_
    refine cI X474 hx (hb hby d_method_7_24) (q := 25) rfl (z := (1 : Int32)) rfl ?_
    refine g_goto X474 hx (hb hby d_method_7_25) (q := 29) (by decide) (by decide) ?_
    refine endP X474 hlk (fun h => by rw [hret] at h; cases h) (lastN X474 hx (t := .boolean) (z' := (1 : Int32)) hret (by simp) (by decide) (hb hby d_method_7_29)) ?_ (by decide) (by decide)
    rw [e474]
    exact ⟨rfl, N474, rfl⟩
  · refine icN X0 hx (hb hby d_method_7_2) (q := 5) rfl (flt hc472).1 ?_
    refine cI X0 hx (hb hby d_method_7_5) (q := 6) rfl (z := (1 : Int32)) rfl ?_
    refine endP X0 hlk (fun h => by rw [hret] at h; cases h) (lastN X0 hx (t := .boolean) (z' := (1 : Int32)) hret (by simp) (by decide) (hb hby d_method_7_6)) ?_ (by decide) (by decide)
    rw [e0]
    exact ⟨rfl, N0, rfl⟩
def Q_at4 (Z : State) (zC : Int32) (vF : Value) (aI : Addr) (aR : Addr) (a1 : Addr) (t : Addr) (kb : ClassId) (us : List Value) (pN : Int32) (pf : Int32) (s1 : Addr) (ks : ClassId) (c0 : Int32) (c1 : Int32) (c2 : Int32) (c3 : Int32) (c4 : Int32) (h0 : Heap) (v : Option Value) (h : Heap) (L : List Loc) : Prop := v = some (iv 1) ∧ Fr Z.heap.size L ∧ h = h0
theorem rm_at4 (l : Launch) (Z : State) (a0 : Array Value) (hw : HW a0 Z) (zC : Int32) (SC : tSC Z zC) (PC : ¬ zC = (0 : Int32)) (vF : Value) (rF : vF = .null ∨ ∃ a, vF = .ref a) (SF : tSF Z vF) (aI : Addr) (SI : tSI Z aI) (aR : Addr) (SR : tSR Z aR) (a1 : Addr) (t : Addr) (kb : ClassId) (us : List Value) (pN : Int32) (pf : Int32) (s1 : Addr) (ks : ClassId) (c0 : Int32) (c1 : Int32) (c2 : Int32) (c3 : Int32) (c4 : Int32) (h0 : Heap) (O0 : Old Z Z.heap.size h0) (Pe : Exa Z h0 a1 sT0) (Pc : Fld Z h0 a1 sT0 "coder" "B" (iv 0)) (Pv : Fld Z h0 a1 sT0 "value" "[B" (.ref t)) (Pa : Arv Z h0 t kb .byte pN us (.int 0)) (PS : Arv Z h0 s1 ks .char (5 : Int32) [(.int c0), (.int c1), (.int c2), (.int c3), (.int c4)] (.int 0)) (PA : (ATP c0 c1 c2 c3 c4 pf pN us)) (H0 : (¬ (c0 < (0 : Int32)))) (J0 : (¬ ((255 : Int32) < c0))) (H1 : (¬ (c1 < (0 : Int32)))) (J1 : (¬ ((255 : Int32) < c1))) (H2 : (¬ (c2 < (0 : Int32)))) (J2 : (¬ ((255 : Int32) < c2))) (H3 : (¬ (c3 < (0 : Int32)))) (J3 : (¬ ((255 : Int32) < c3))) (H4 : (¬ (c4 < (0 : Int32)))) (J4 : (¬ ((255 : Int32) < c4))) :
    Con l Z (⟨sT1, "at", "(Ljava/lang/String;II[CI)Z"⟩ : MethodName) method_7_code 5 (some .boolean) ({ frames := 4, cells := 0, slots := 0, locals := 53 } : Room) #[(.ref a1), (iv 4), (.int pN), (.ref s1), (.int pf)] h0 (Q_at4 Z zC vF aI aR a1 t kb us pN pf s1 ks c0 c1 c2 c3 c4 h0) := by
  refine Con.intro (plainFor_of_name pn0) ?_
  intro p e s m below meth c T0 X0 hx hby hml hown0 hnm hret hlk hZ0 e0
  have N0 := Fr.nil Z.heap.size
  refine castGo (g' := mkF m 0 #[.val (.ref a1), .val (iv 4), .val (.int pN), .val (.ref s1), .val (.int pf)] []) (by first | rfl | (simp [entryFrame, mkF, argsToLocals, Value.category]; done)) ?_
  have HR5 : ∀ x ∈ ([c0, c1, c2, c3, c4] : List Int32), ¬ x < 0 ∧ ¬ (255 : Int32) < x := (alS ⟨H0, J0⟩ (alS ⟨H1, J1⟩ (alS ⟨H2, J2⟩ (alS ⟨H3, J3⟩ (alS ⟨H4, J4⟩ al0)))))
  show Go _ _ _ _ (T0.setTop (mkF m 0 #[.val (.ref a1), .val (iv 4), .val (.int pN), .val (.ref s1), .val (.int pf)] []))
  refine iL X0 hx (hb hby d_method_7_0) (q := 1) rfl rfl ?_
  refine iL X0 hx (hb hby d_method_7_1) (q := 2) rfl rfl ?_
  by_cases hc475 : (4 : Int32) < pN
  · refine icY X0 hx (hb hby d_method_7_2) (q := 7) (by decide) (by decide) (tlt hc475).1 ?_
    obtain ⟨ix, yy, hfi, hik, hyy, hv⟩ := PA 4 hc475 (by decide)
    have ry := rng_at HR5 (n := 5) rfl hik hyy
    refine aL X0 hx (hb hby d_method_7_7) (q := 8) rfl rfl rfl ?_
    refine iL X0 hx (hb hby d_method_7_8) (q := 9) rfl rfl ?_
    refine g_vi X0 hx hZ0 hown0 (wd158 hw) (wd159 hw) (notFace_of_selects (args := #[]) (mvT hZ0 (wd161 hw))) (wd161 hw) (wd160 hw) (by decide) Pe e0 (Con.back (W := 0) (rm_sca l Z a0 hw zC SC PC vF rF SF aI SI aR SR a1 t kb us (4 : Int32) pN (low yy) h0 O0 Pe Pc Pv Pa (by decide : ¬ ((4 : Int32) < (0 : Int32))) hc475 hv (low_rng ry.1 ry.2).1 (low_rng ry.1 ry.2).2) hZ0 (wd162 hw) (wd20 hw) (by decide) (by decide)) (by rw [hml]; rfl) (lenOf pd20 rfl) rfl (Nat.le_of_eq rfl) (hb hby d_method_7_9) (q := 12) rfl (by decide) (by decide) ?_
    intro v476 T476 L476 X476 Q476
    obtain ⟨rfl, Nq476, e476⟩ := Q476
    have N476 := Fr.app N0 Nq476
    show Go _ _ _ _ (T476.setTop (mkF m 12 #[.val (.ref a1), .val (iv 4), .val (.int pN), .val (.ref s1), .val (.int pf)] [(.int (low yy))]))
    refine aL X476 hx (hb hby d_method_7_12) (q := 13) rfl rfl rfl ?_
    refine iLw X476 hx (hb hby d_method_7_13) (q := 15) rfl rfl ?_
    refine iL X476 hx (hb hby d_method_7_15) (q := 16) rfl rfl ?_
    refine g_iadd X476 hx (hb hby d_method_7_16) (q := 17) rfl rfl ?_
    refine castGo (g' := mkF m 17 #[.val (.ref a1), .val (iv 4), .val (.int pN), .val (.ref s1), .val (.int pf)] [(.int (Int32.ofNat (ix + 4))), (.ref s1), (.int (low yy))]) (by rw [(show Int32.ofNat (ix + 4) = (pf + (4 : Int32)) from by rw [hfi, Int32.ofNat_add]; rfl)]) ?_
    refine g_ldC X476 hx hZ0 PS (i := (ix + 4)) (on_clamp (show (ix + 4) < 2147483648 from by omega)) (on_nn (show (ix + 4) < 2147483648 from by omega)) (on_lt (n := 5) hik (by decide)) (v := (.int yy)) (by rw [hyy]; exact map_getD (cs := ([c0, c1, c2, c3, c4] : List Int32)) (f := Value.int) (n := 5) rfl hik) e476 (hb hby d_method_7_17) (q := 18) rfl ?_
    refine g_st X476 hx hZ0 hown0 (wd172 hw) (wd173 hw) (wd3 hw) (wd174 hw) (by decide) e476 (Con.back (W := 1) (rm_lower l Z a0 hw zC SC PC vF rF SF aI SI aR SR yy h0 O0 ry.1 ry.2) hZ0 (wd174 hw) (wd3 hw) (by decide) (by decide)) (by rw [hml]; rfl) (lenOf pd21 rfl) rfl (Nat.le_of_eq rfl) (hb hby d_method_7_18) (q := 21) rfl (by decide) (by decide) ?_
    intro v477 T477 L477 X477 Q477
    obtain ⟨rfl, Nq477, e477⟩ := Q477
    have N477 := Fr.app N476 Nq477
    show Go _ _ _ _ (T477.setTop (mkF m 21 #[.val (.ref a1), .val (iv 4), .val (.int pN), .val (.ref s1), .val (.int pf)] [(.int (low yy)), (.int (low yy))]))
    refine icN X477 hx (hb hby d_method_7_21) (q := 24) rfl (teq rfl).2 ?_
    refine cI X477 hx (hb hby d_method_7_24) (q := 25) rfl (z := (1 : Int32)) rfl ?_
    refine g_goto X477 hx (hb hby d_method_7_25) (q := 29) (by decide) (by decide) ?_
    refine endP X477 hlk (fun h => by rw [hret] at h; cases h) (lastN X477 hx (t := .boolean) (z' := (1 : Int32)) hret (by simp) (by decide) (hb hby d_method_7_29)) ?_ (by decide) (by decide)
    rw [e477]
    exact ⟨rfl, N477, rfl⟩
  · refine icN X0 hx (hb hby d_method_7_2) (q := 5) rfl (flt hc475).1 ?_
    refine cI X0 hx (hb hby d_method_7_5) (q := 6) rfl (z := (1 : Int32)) rfl ?_
    refine endP X0 hlk (fun h => by rw [hret] at h; cases h) (lastN X0 hx (t := .boolean) (z' := (1 : Int32)) hret (by simp) (by decide) (hb hby d_method_7_6)) ?_ (by decide) (by decide)
    rw [e0]
    exact ⟨rfl, N0, rfl⟩
theorem wd0 {a0 : Array Value} {Z : State} (hw : HW a0 Z) : ((Jvm.Cond.arrayClass Jvm.ClassFile.FieldType.char) : Jvm.Cond).before a0 Z = true := hw _ (List.mem_of_getElem? (i := 0) rfl)
theorem wd4 {a0 : Array Value} {Z : State} (hw : HW a0 Z) : ((Jvm.Cond.code ({ cls := "com/example/handoff/handoff/internal/MediaTypesEssencePinLaw", name := "draw", desc := "(I)C" } : Jvm.MethodName) method_2_code (2 : Nat) (Option.some Jvm.ClassFile.FieldType.char)) : Jvm.Cond).before a0 Z = true := hw _ (List.mem_of_getElem? (i := 4) rfl)
theorem wd1 {a0 : Array Value} {Z : State} (hw : HW a0 Z) : ((Jvm.Cond.methodLink "com/example/handoff/handoff/internal/MediaTypesEssencePinLaw" (19 : Nat) ({ cls := "com/example/handoff/handoff/internal/MediaTypesEssencePinLaw", name := "draw", desc := "(I)C" } : Jvm.MethodName)) : Jvm.Cond).before a0 Z = true := hw _ (List.mem_of_getElem? (i := 1) rfl)
theorem wd2 {a0 : Array Value} {Z : State} (hw : HW a0 Z) : ((Jvm.Cond.static ({ cls := "com/example/handoff/handoff/internal/MediaTypesEssencePinLaw", name := "draw", desc := "(I)C" } : Jvm.MethodName)) : Jvm.Cond).before a0 Z = true := hw _ (List.mem_of_getElem? (i := 2) rfl)
theorem wd7 {a0 : Array Value} {Z : State} (hw : HW a0 Z) : ((Jvm.Cond.code ({ cls := "com/example/handoff/handoff/internal/MediaTypesEssencePinLaw", name := "firstSemi", desc := "([C)I" } : Jvm.MethodName) method_4_code (1 : Nat) (Option.some Jvm.ClassFile.FieldType.int)) : Jvm.Cond).before a0 Z = true := hw _ (List.mem_of_getElem? (i := 7) rfl)
theorem pd22 : parseMethodDescriptor "([C)I" = some ⟨[(.array .char)], some .int⟩ := by decide +kernel
theorem wd5 {a0 : Array Value} {Z : State} (hw : HW a0 Z) : ((Jvm.Cond.methodLink "com/example/handoff/handoff/internal/MediaTypesEssencePinLaw" (22 : Nat) ({ cls := "com/example/handoff/handoff/internal/MediaTypesEssencePinLaw", name := "firstSemi", desc := "([C)I" } : Jvm.MethodName)) : Jvm.Cond).before a0 Z = true := hw _ (List.mem_of_getElem? (i := 5) rfl)
theorem wd6 {a0 : Array Value} {Z : State} (hw : HW a0 Z) : ((Jvm.Cond.static ({ cls := "com/example/handoff/handoff/internal/MediaTypesEssencePinLaw", name := "firstSemi", desc := "([C)I" } : Jvm.MethodName)) : Jvm.Cond).before a0 Z = true := hw _ (List.mem_of_getElem? (i := 6) rfl)
theorem wd10 {a0 : Array Value} {Z : State} (hw : HW a0 Z) : ((Jvm.Cond.code ({ cls := "com/example/handoff/handoff/internal/MediaTypesEssencePinLaw", name := "firstSolid", desc := "([CI)I" } : Jvm.MethodName) method_5_code (2 : Nat) (Option.some Jvm.ClassFile.FieldType.int)) : Jvm.Cond).before a0 Z = true := hw _ (List.mem_of_getElem? (i := 10) rfl)
theorem pd23 : parseMethodDescriptor "([CI)I" = some ⟨[(.array .char), .int], some .int⟩ := by decide +kernel
theorem wd8 {a0 : Array Value} {Z : State} (hw : HW a0 Z) : ((Jvm.Cond.methodLink "com/example/handoff/handoff/internal/MediaTypesEssencePinLaw" (26 : Nat) ({ cls := "com/example/handoff/handoff/internal/MediaTypesEssencePinLaw", name := "firstSolid", desc := "([CI)I" } : Jvm.MethodName)) : Jvm.Cond).before a0 Z = true := hw _ (List.mem_of_getElem? (i := 8) rfl)
theorem wd9 {a0 : Array Value} {Z : State} (hw : HW a0 Z) : ((Jvm.Cond.static ({ cls := "com/example/handoff/handoff/internal/MediaTypesEssencePinLaw", name := "firstSolid", desc := "([CI)I" } : Jvm.MethodName)) : Jvm.Cond).before a0 Z = true := hw _ (List.mem_of_getElem? (i := 9) rfl)
theorem wd13 {a0 : Array Value} {Z : State} (hw : HW a0 Z) : ((Jvm.Cond.code ({ cls := "com/example/handoff/handoff/internal/MediaTypesEssencePinLaw", name := "lastSolidEnd", desc := "([CI)I" } : Jvm.MethodName) method_6_code (2 : Nat) (Option.some Jvm.ClassFile.FieldType.int)) : Jvm.Cond).before a0 Z = true := hw _ (List.mem_of_getElem? (i := 13) rfl)
theorem wd11 {a0 : Array Value} {Z : State} (hw : HW a0 Z) : ((Jvm.Cond.methodLink "com/example/handoff/handoff/internal/MediaTypesEssencePinLaw" (30 : Nat) ({ cls := "com/example/handoff/handoff/internal/MediaTypesEssencePinLaw", name := "lastSolidEnd", desc := "([CI)I" } : Jvm.MethodName)) : Jvm.Cond).before a0 Z = true := hw _ (List.mem_of_getElem? (i := 11) rfl)
theorem wd12 {a0 : Array Value} {Z : State} (hw : HW a0 Z) : ((Jvm.Cond.static ({ cls := "com/example/handoff/handoff/internal/MediaTypesEssencePinLaw", name := "lastSolidEnd", desc := "([CI)I" } : Jvm.MethodName)) : Jvm.Cond).before a0 Z = true := hw _ (List.mem_of_getElem? (i := 12) rfl)
theorem wd14 {a0 : Array Value} {Z : State} (hw : HW a0 Z) : ((Jvm.Cond.methodLink "com/example/handoff/handoff/internal/MediaTypesEssencePinLaw" (33 : Nat) ({ cls := "java/lang/Math", name := "max", desc := "(II)I" } : Jvm.MethodName)) : Jvm.Cond).before a0 Z = true := hw _ (List.mem_of_getElem? (i := 14) rfl)
theorem wd18 {a0 : Array Value} {Z : State} (hw : HW a0 Z) : ((Jvm.Cond.classLink "com/example/handoff/handoff/internal/MediaTypesEssencePinLaw" (8 : Nat) "java/lang/String") : Jvm.Cond).before a0 Z = true := hw _ (List.mem_of_getElem? (i := 18) rfl)
theorem wd23 {a0 : Array Value} {Z : State} (hw : HW a0 Z) : ((Jvm.Cond.code ({ cls := "java/lang/String", name := "<init>", desc := "([C)V" } : Jvm.MethodName) jdk_42_method_3_code (2 : Nat) (Option.none : Option Jvm.ClassFile.FieldType)) : Jvm.Cond).before a0 Z = true := hw _ (List.mem_of_getElem? (i := 23) rfl)
theorem pd24 : parseMethodDescriptor "([C)V" = some ⟨[(.array .char)], none⟩ := by decide +kernel
theorem wd21 {a0 : Array Value} {Z : State} (hw : HW a0 Z) : ((Jvm.Cond.methodLink "com/example/handoff/handoff/internal/MediaTypesEssencePinLaw" (39 : Nat) ({ cls := "java/lang/String", name := "<init>", desc := "([C)V" } : Jvm.MethodName)) : Jvm.Cond).before a0 Z = true := hw _ (List.mem_of_getElem? (i := 21) rfl)
theorem wd22 {a0 : Array Value} {Z : State} (hw : HW a0 Z) : ((Jvm.Cond.instanceMethod ({ cls := "java/lang/String", name := "<init>", desc := "([C)V" } : Jvm.MethodName)) : Jvm.Cond).before a0 Z = true := hw _ (List.mem_of_getElem? (i := 22) rfl)
theorem wd50 {a0 : Array Value} {Z : State} (hw : HW a0 Z) : ((Jvm.Cond.code ({ cls := "com/example/handoff/handoff/internal/MediaTypes", name := "essence", desc := "(Ljava/lang/String;)Ljava/lang/String;" } : Jvm.MethodName) prog_15_method_2_code (3 : Nat) (Option.some (Jvm.ClassFile.FieldType.object "java/lang/String"))) : Jvm.Cond).before a0 Z = true := hw _ (List.mem_of_getElem? (i := 50) rfl)
theorem wd49 {a0 : Array Value} {Z : State} (hw : HW a0 Z) : ((Jvm.Cond.initialized "com/example/handoff/handoff/internal/MediaTypes") : Jvm.Cond).before a0 Z = true := hw _ (List.mem_of_getElem? (i := 49) rfl)
theorem pd25 : parseMethodDescriptor "(Ljava/lang/String;)Ljava/lang/String;" = some ⟨[(.object "java/lang/String")], some (.object "java/lang/String")⟩ := by decide +kernel
theorem wd47 {a0 : Array Value} {Z : State} (hw : HW a0 Z) : ((Jvm.Cond.methodLink "com/example/handoff/handoff/internal/MediaTypesEssencePinLaw" (42 : Nat) ({ cls := "com/example/handoff/handoff/internal/MediaTypes", name := "essence", desc := "(Ljava/lang/String;)Ljava/lang/String;" } : Jvm.MethodName)) : Jvm.Cond).before a0 Z = true := hw _ (List.mem_of_getElem? (i := 47) rfl)
theorem wd48 {a0 : Array Value} {Z : State} (hw : HW a0 Z) : ((Jvm.Cond.static ({ cls := "com/example/handoff/handoff/internal/MediaTypes", name := "essence", desc := "(Ljava/lang/String;)Ljava/lang/String;" } : Jvm.MethodName)) : Jvm.Cond).before a0 Z = true := hw _ (List.mem_of_getElem? (i := 48) rfl)
theorem wd127 {a0 : Array Value} {Z : State} (hw : HW a0 Z) : ((Jvm.Cond.methodLink "com/example/handoff/handoff/internal/MediaTypesEssencePinLaw" (48 : Nat) ({ cls := "java/lang/String", name := "length", desc := "()I" } : Jvm.MethodName)) : Jvm.Cond).before a0 Z = true := hw _ (List.mem_of_getElem? (i := 127) rfl)
theorem wd130 {a0 : Array Value} {Z : State} (hw : HW a0 Z) : ((Jvm.Cond.code ({ cls := "com/example/handoff/handoff/internal/MediaTypesEssencePinLaw", name := "at", desc := "(Ljava/lang/String;II[CI)Z" } : Jvm.MethodName) method_7_code (5 : Nat) (Option.some Jvm.ClassFile.FieldType.boolean)) : Jvm.Cond).before a0 Z = true := hw _ (List.mem_of_getElem? (i := 130) rfl)
theorem pd26 : parseMethodDescriptor "(Ljava/lang/String;II[CI)Z" = some ⟨[(.object "java/lang/String"), .int, .int, (.array .char), .int], some .boolean⟩ := by decide +kernel
theorem wd128 {a0 : Array Value} {Z : State} (hw : HW a0 Z) : ((Jvm.Cond.methodLink "com/example/handoff/handoff/internal/MediaTypesEssencePinLaw" (52 : Nat) ({ cls := "com/example/handoff/handoff/internal/MediaTypesEssencePinLaw", name := "at", desc := "(Ljava/lang/String;II[CI)Z" } : Jvm.MethodName)) : Jvm.Cond).before a0 Z = true := hw _ (List.mem_of_getElem? (i := 128) rfl)
theorem wd129 {a0 : Array Value} {Z : State} (hw : HW a0 Z) : ((Jvm.Cond.static ({ cls := "com/example/handoff/handoff/internal/MediaTypesEssencePinLaw", name := "at", desc := "(Ljava/lang/String;II[CI)Z" } : Jvm.MethodName)) : Jvm.Cond).before a0 Z = true := hw _ (List.mem_of_getElem? (i := 129) rfl)
def Q_law (Z : State) (zC : Int32) (vF : Value) (aI : Addr) (aR : Addr) (p0 : Int32) (p1 : Int32) (p2 : Int32) (p3 : Int32) (p4 : Int32) (aB : Addr) (aG : Addr) (aV : Addr) (kG : ClassId) (gL : List Value) (h0 : Heap) (v : Option Value) (h : Heap) (L : List Loc) : Prop := v = some (iv 1) ∧ Fr Z.heap.size L ∧ True
theorem rm_law (l : Launch) (Z : State) (a0 : Array Value) (hw : HW a0 Z) (zC : Int32) (SC : tSC Z zC) (PC : ¬ zC = (0 : Int32)) (vF : Value) (rF : vF = .null ∨ ∃ a, vF = .ref a) (SF : tSF Z vF) (aI : Addr) (SI : tSI Z aI) (aR : Addr) (SR : tSR Z aR) (p0 : Int32) (p1 : Int32) (p2 : Int32) (p3 : Int32) (p4 : Int32) (aB : Addr) (aG : Addr) (aV : Addr) (kG : ClassId) (gL : List Value) (h0 : Heap) (O0 : Old Z Z.heap.size h0) (L1 : Exa Z h0 aR "java/util/Locale") (L2 : Fld Z h0 aR "java/util/Locale" "baseLocale" "Lsun/util/locale/BaseLocale;" (.ref aB)) (L3 : Exa Z h0 aB "sun/util/locale/BaseLocale") (L4 : Fld Z h0 aB "sun/util/locale/BaseLocale" "language" "Ljava/lang/String;" (.ref aG)) (L5 : Exa Z h0 aG sT0) (L6 : Fld Z h0 aG sT0 "value" "[B" (.ref aV)) (L7 : Arv Z h0 aV kG .byte (0 : Int32) gL (.int 0)) (L8 : Exa Z h0 aI "java/lang/CharacterDataLatin1") :
    ConS l Z EL (⟨sT1, "law", "(IIIII)Z"⟩ : MethodName) code 11 (some .boolean) room_1 #[(.int p0), (.int p1), (.int p2), (.int p3), (.int p4)] h0 [] (Q_law Z zC vF aI aR p0 p1 p2 p3 p4 aB aG aV kG gL h0) := by
  refine ConS.intro (plainFor_of_name pn0) ?_
  intro p e s m below meth c T0 v0 X0 hx hby hml hown0 hnm hret hlk hZ0 e0 hS0 C0 hsl0
  have N0 := Fr.nil Z.heap.size
  refine castGo (g' := mkF m 0 #[.val (.int p0), .val (.int p1), .val (.int p2), .val (.int p3), .val (.int p4), .unset, .unset, .unset, .unset, .unset, .unset] []) (by first | rfl | (simp [entryFrame, mkF, argsToLocals, Value.category]; done)) ?_
  show Go _ _ _ _ (T0.setTop (mkF m 0 #[.val (.int p0), .val (.int p1), .val (.int p2), .val (.int p3), .val (.int p4), .unset, .unset, .unset, .unset, .unset, .unset] []))
  refine cI X0 hx (hb hby at_0) (q := 1) rfl (z := (5 : Int32)) rfl ?_
  refine g_newA X0 hx hZ0 (aty := .char) (wd0 hw) (by decide) (n := 5) (by decide) (by decide) (by decide) (by decide) e0 (hb hby at_1) (q := 3) rfl ?_
  intro T478 h478 k478 b478 g478 X478 e478 E478 V478
  have Va478 : Arv Z h478 b478 k478 .char (5 : Int32) [(iv 0), (iv 0), (iv 0), (iv 0), (iv 0)] (.int 0) := V478
  refine g_dup X478 hx (hb hby at_3) (q := 4) rfl rfl ?_
  refine cI X478 hx (hb hby at_4) (q := 5) rfl (z := (0 : Int32)) rfl ?_
  refine iL X478 hx (hb hby at_5) (q := 6) rfl rfl ?_
  have f480 := O0.ext E478
  refine g_st X478 hx hZ0 hown0 (wd1 hw) (wd2 hw) (wd3 hw) (wd4 hw) (by decide) e478 (Con.back (W := 3) (rm_draw l Z a0 hw zC SC PC vF rF SF aI SI aR SR p0 h478 f480 ) hZ0 (wd4 hw) (wd3 hw) (by decide) (by decide)) (by rw [hml]; rfl) (lenOf pd20 rfl) rfl (Nat.le_of_eq rfl) (hb hby at_6) (q := 9) rfl (by decide) (by decide) ?_
  intro v479 T479 L479 X479 Q479
  obtain ⟨y_479, rfl, Nq479, e479, q479_0, q479_1⟩ := Q479
  have N479 := Fr.app N0 Nq479
  show Go _ _ _ _ (T479.setTop (mkF m 9 #[.val (.int p0), .val (.int p1), .val (.int p2), .val (.int p3), .val (.int p4), .unset, .unset, .unset, .unset, .unset, .unset] [(.int y_479), (iv 0), (.ref b478), (.ref b478)]))
  have gz482 : Z.heap.size ≤ b478 := Nat.le_trans O0.2.1 (Nat.le_of_eq g478.symm)
  have f483 := C0.trans (CHr.ext E478 C0.1)
  refine g_stC X479 hx hZ0 Va478 (i := 0) (by decide) (by decide) (by decide) (Nat.le_of_ble_eq_true rfl) (y := y_479) (nar_of255 q479_0 q479_1) e479 (hb hby at_9) (q := 10) rfl ?_
  intro T481 h481 X481 e481 W481 V481
  have N481 := Fr.snoc X481 N479 gz482
  have Va481 : Arv Z h481 b478 k478 .char (5 : Int32) [(.int y_479), (iv 0), (iv 0), (iv 0), (iv 0)] (.int 0) := V481
  refine g_dup X481 hx (hb hby at_10) (q := 11) rfl rfl ?_
  refine cI X481 hx (hb hby at_11) (q := 12) rfl (z := (1 : Int32)) rfl ?_
  refine iL X481 hx (hb hby at_12) (q := 13) rfl rfl ?_
  have f485 := f480.wr W481 gz482
  refine g_st X481 hx hZ0 hown0 (wd1 hw) (wd2 hw) (wd3 hw) (wd4 hw) (by decide) e481 (Con.back (W := 3) (rm_draw l Z a0 hw zC SC PC vF rF SF aI SI aR SR p1 h481 f485 ) hZ0 (wd4 hw) (wd3 hw) (by decide) (by decide)) (by rw [hml]; rfl) (lenOf pd20 rfl) rfl (Nat.le_of_eq rfl) (hb hby at_13) (q := 16) rfl (by decide) (by decide) ?_
  intro v484 T484 L484 X484 Q484
  obtain ⟨y_484, rfl, Nq484, e484, q484_0, q484_1⟩ := Q484
  have N484 := Fr.app N481 Nq484
  show Go _ _ _ _ (T484.setTop (mkF m 16 #[.val (.int p0), .val (.int p1), .val (.int p2), .val (.int p3), .val (.int p4), .unset, .unset, .unset, .unset, .unset, .unset] [(.int y_484), (iv 1), (.ref b478), (.ref b478)]))
  have f487 := f483.trans (CHr.wr W481 (Safe.arv hZ0.alike Va478 (by decide)) f483.1)
  refine g_stC X484 hx hZ0 Va481 (i := 1) (by decide) (by decide) (by decide) (Nat.le_of_ble_eq_true rfl) (y := y_484) (nar_of255 q484_0 q484_1) e484 (hb hby at_16) (q := 17) rfl ?_
  intro T486 h486 X486 e486 W486 V486
  have N486 := Fr.snoc X486 N484 gz482
  have Va486 : Arv Z h486 b478 k478 .char (5 : Int32) [(.int y_479), (.int y_484), (iv 0), (iv 0), (iv 0)] (.int 0) := V486
  refine g_dup X486 hx (hb hby at_17) (q := 18) rfl rfl ?_
  refine cI X486 hx (hb hby at_18) (q := 19) rfl (z := (2 : Int32)) rfl ?_
  refine iL X486 hx (hb hby at_19) (q := 20) rfl rfl ?_
  have f489 := f485.wr W486 gz482
  refine g_st X486 hx hZ0 hown0 (wd1 hw) (wd2 hw) (wd3 hw) (wd4 hw) (by decide) e486 (Con.back (W := 3) (rm_draw l Z a0 hw zC SC PC vF rF SF aI SI aR SR p2 h486 f489 ) hZ0 (wd4 hw) (wd3 hw) (by decide) (by decide)) (by rw [hml]; rfl) (lenOf pd20 rfl) rfl (Nat.le_of_eq rfl) (hb hby at_20) (q := 23) rfl (by decide) (by decide) ?_
  intro v488 T488 L488 X488 Q488
  obtain ⟨y_488, rfl, Nq488, e488, q488_0, q488_1⟩ := Q488
  have N488 := Fr.app N486 Nq488
  show Go _ _ _ _ (T488.setTop (mkF m 23 #[.val (.int p0), .val (.int p1), .val (.int p2), .val (.int p3), .val (.int p4), .unset, .unset, .unset, .unset, .unset, .unset] [(.int y_488), (iv 2), (.ref b478), (.ref b478)]))
  have f491 := f487.trans (CHr.wr W486 (Safe.arv hZ0.alike Va481 (by decide)) f487.1)
  refine g_stC X488 hx hZ0 Va486 (i := 2) (by decide) (by decide) (by decide) (Nat.le_of_ble_eq_true rfl) (y := y_488) (nar_of255 q488_0 q488_1) e488 (hb hby at_23) (q := 24) rfl ?_
  intro T490 h490 X490 e490 W490 V490
  have N490 := Fr.snoc X490 N488 gz482
  have Va490 : Arv Z h490 b478 k478 .char (5 : Int32) [(.int y_479), (.int y_484), (.int y_488), (iv 0), (iv 0)] (.int 0) := V490
  refine g_dup X490 hx (hb hby at_24) (q := 25) rfl rfl ?_
  refine cI X490 hx (hb hby at_25) (q := 26) rfl (z := (3 : Int32)) rfl ?_
  refine iL X490 hx (hb hby at_26) (q := 27) rfl rfl ?_
  have f493 := f489.wr W490 gz482
  refine g_st X490 hx hZ0 hown0 (wd1 hw) (wd2 hw) (wd3 hw) (wd4 hw) (by decide) e490 (Con.back (W := 3) (rm_draw l Z a0 hw zC SC PC vF rF SF aI SI aR SR p3 h490 f493 ) hZ0 (wd4 hw) (wd3 hw) (by decide) (by decide)) (by rw [hml]; rfl) (lenOf pd20 rfl) rfl (Nat.le_of_eq rfl) (hb hby at_27) (q := 30) rfl (by decide) (by decide) ?_
  intro v492 T492 L492 X492 Q492
  obtain ⟨y_492, rfl, Nq492, e492, q492_0, q492_1⟩ := Q492
  have N492 := Fr.app N490 Nq492
  show Go _ _ _ _ (T492.setTop (mkF m 30 #[.val (.int p0), .val (.int p1), .val (.int p2), .val (.int p3), .val (.int p4), .unset, .unset, .unset, .unset, .unset, .unset] [(.int y_492), (iv 3), (.ref b478), (.ref b478)]))
  have f495 := f491.trans (CHr.wr W490 (Safe.arv hZ0.alike Va486 (by decide)) f491.1)
  refine g_stC X492 hx hZ0 Va490 (i := 3) (by decide) (by decide) (by decide) (Nat.le_of_ble_eq_true rfl) (y := y_492) (nar_of255 q492_0 q492_1) e492 (hb hby at_30) (q := 31) rfl ?_
  intro T494 h494 X494 e494 W494 V494
  have N494 := Fr.snoc X494 N492 gz482
  have Va494 : Arv Z h494 b478 k478 .char (5 : Int32) [(.int y_479), (.int y_484), (.int y_488), (.int y_492), (iv 0)] (.int 0) := V494
  refine g_dup X494 hx (hb hby at_31) (q := 32) rfl rfl ?_
  refine cI X494 hx (hb hby at_32) (q := 33) rfl (z := (4 : Int32)) rfl ?_
  refine iLw X494 hx (hb hby at_33) (q := 35) rfl rfl ?_
  have f497 := f493.wr W494 gz482
  refine g_st X494 hx hZ0 hown0 (wd1 hw) (wd2 hw) (wd3 hw) (wd4 hw) (by decide) e494 (Con.back (W := 3) (rm_draw l Z a0 hw zC SC PC vF rF SF aI SI aR SR p4 h494 f497 ) hZ0 (wd4 hw) (wd3 hw) (by decide) (by decide)) (by rw [hml]; rfl) (lenOf pd20 rfl) rfl (Nat.le_of_eq rfl) (hb hby at_35) (q := 38) rfl (by decide) (by decide) ?_
  intro v496 T496 L496 X496 Q496
  obtain ⟨y_496, rfl, Nq496, e496, q496_0, q496_1⟩ := Q496
  have N496 := Fr.app N494 Nq496
  show Go _ _ _ _ (T496.setTop (mkF m 38 #[.val (.int p0), .val (.int p1), .val (.int p2), .val (.int p3), .val (.int p4), .unset, .unset, .unset, .unset, .unset, .unset] [(.int y_496), (iv 4), (.ref b478), (.ref b478)]))
  have f499 := f495.trans (CHr.wr W494 (Safe.arv hZ0.alike Va490 (by decide)) f495.1)
  refine g_stC X496 hx hZ0 Va494 (i := 4) (by decide) (by decide) (by decide) (Nat.le_of_ble_eq_true rfl) (y := y_496) (nar_of255 q496_0 q496_1) e496 (hb hby at_38) (q := 39) rfl ?_
  intro T498 h498 X498 e498 W498 V498
  have N498 := Fr.snoc X498 N496 gz482
  have Va498 : Arv Z h498 b478 k478 .char (5 : Int32) [(.int y_479), (.int y_484), (.int y_488), (.int y_492), (.int y_496)] (.int 0) := V498
  refine sAw X498 hx (hb hby at_39) (q := 41) rfl rfl (Ls' := #[.val (.int p0), .val (.int p1), .val (.int p2), .val (.int p3), .val (.int p4), .val (.ref b478), .unset, .unset, .unset, .unset, .unset]) rfl ?_
  refine aLw X498 hx (hb hby at_41) (q := 43) rfl rfl rfl ?_
  have f501 := f497.wr W498 gz482
  refine g_st X498 hx hZ0 hown0 (wd5 hw) (wd6 hw) (wd3 hw) (wd7 hw) (by decide) e498 (Con.back (W := 0) (rm_fsemi l Z a0 hw zC SC PC vF rF SF aI SI aR SR b478 k478 y_479 y_484 y_488 y_492 y_496 h498 f501 Va498) hZ0 (wd7 hw) (wd3 hw) (by decide) (by decide)) (by rw [hml]; rfl) (lenOf pd22 rfl) rfl (Nat.le_of_eq rfl) (hb hby at_43) (q := 46) rfl (by decide) (by decide) ?_
  intro v500 T500 L500 X500 Q500
  obtain ⟨rfl, Nq500, e500⟩ := Q500
  have N500 := Fr.app N498 Nq500
  show Go _ _ _ _ (T500.setTop (mkF m 46 #[.val (.int p0), .val (.int p1), .val (.int p2), .val (.int p3), .val (.int p4), .val (.ref b478), .unset, .unset, .unset, .unset, .unset] [(.int (fse y_479 y_484 y_488 y_492 y_496))]))
  refine sIw X500 hx (hb hby at_46) (q := 48) rfl (Ls' := #[.val (.int p0), .val (.int p1), .val (.int p2), .val (.int p3), .val (.int p4), .val (.ref b478), .val (.int (fse y_479 y_484 y_488 y_492 y_496)), .unset, .unset, .unset, .unset]) rfl ?_
  refine aLw X500 hx (hb hby at_48) (q := 50) rfl rfl rfl ?_
  refine iLw X500 hx (hb hby at_50) (q := 52) rfl rfl ?_
  refine g_st X500 hx hZ0 hown0 (wd8 hw) (wd9 hw) (wd3 hw) (wd10 hw) (by decide) e500 (Con.back (W := 0) (rm_fsolid l Z a0 hw zC SC PC vF rF SF aI SI aR SR b478 k478 y_479 y_484 y_488 y_492 y_496 (fse y_479 y_484 y_488 y_492 y_496) h498 f501 Va498 (fse_fin _ _ _ _ _)) hZ0 (wd10 hw) (wd3 hw) (by decide) (by decide)) (by rw [hml]; rfl) (lenOf pd23 rfl) rfl (Nat.le_of_eq rfl) (hb hby at_52) (q := 55) rfl (by decide) (by decide) ?_
  intro v502 T502 L502 X502 Q502
  obtain ⟨rfl, Nq502, e502⟩ := Q502
  have N502 := Fr.app N500 Nq502
  show Go _ _ _ _ (T502.setTop (mkF m 55 #[.val (.int p0), .val (.int p1), .val (.int p2), .val (.int p3), .val (.int p4), .val (.ref b478), .val (.int (fse y_479 y_484 y_488 y_492 y_496)), .unset, .unset, .unset, .unset] [(.int (fso y_479 y_484 y_488 y_492 y_496 (fse y_479 y_484 y_488 y_492 y_496)))]))
  refine sIw X502 hx (hb hby at_55) (q := 57) rfl (Ls' := #[.val (.int p0), .val (.int p1), .val (.int p2), .val (.int p3), .val (.int p4), .val (.ref b478), .val (.int (fse y_479 y_484 y_488 y_492 y_496)), .val (.int (fso y_479 y_484 y_488 y_492 y_496 (fse y_479 y_484 y_488 y_492 y_496))), .unset, .unset, .unset]) rfl ?_
  refine aLw X502 hx (hb hby at_57) (q := 59) rfl rfl rfl ?_
  refine iLw X502 hx (hb hby at_59) (q := 61) rfl rfl ?_
  refine g_st X502 hx hZ0 hown0 (wd11 hw) (wd12 hw) (wd3 hw) (wd13 hw) (by decide) e502 (Con.back (W := 0) (rm_lsolid l Z a0 hw zC SC PC vF rF SF aI SI aR SR b478 k478 y_479 y_484 y_488 y_492 y_496 (fse y_479 y_484 y_488 y_492 y_496) h498 f501 Va498 (fse_fin _ _ _ _ _)) hZ0 (wd13 hw) (wd3 hw) (by decide) (by decide)) (by rw [hml]; rfl) (lenOf pd23 rfl) rfl (Nat.le_of_eq rfl) (hb hby at_61) (q := 64) rfl (by decide) (by decide) ?_
  intro v503 T503 L503 X503 Q503
  obtain ⟨rfl, Nq503, e503⟩ := Q503
  have N503 := Fr.app N502 Nq503
  show Go _ _ _ _ (T503.setTop (mkF m 64 #[.val (.int p0), .val (.int p1), .val (.int p2), .val (.int p3), .val (.int p4), .val (.ref b478), .val (.int (fse y_479 y_484 y_488 y_492 y_496)), .val (.int (fso y_479 y_484 y_488 y_492 y_496 (fse y_479 y_484 y_488 y_492 y_496))), .unset, .unset, .unset] [(.int (lse y_479 y_484 y_488 y_492 y_496 (fse y_479 y_484 y_488 y_492 y_496)))]))
  refine sIw X503 hx (hb hby at_64) (q := 66) rfl (Ls' := #[.val (.int p0), .val (.int p1), .val (.int p2), .val (.int p3), .val (.int p4), .val (.ref b478), .val (.int (fse y_479 y_484 y_488 y_492 y_496)), .val (.int (fso y_479 y_484 y_488 y_492 y_496 (fse y_479 y_484 y_488 y_492 y_496))), .val (.int (lse y_479 y_484 y_488 y_492 y_496 (fse y_479 y_484 y_488 y_492 y_496))), .unset, .unset]) rfl ?_
  refine cI X503 hx (hb hby at_66) (q := 67) rfl (z := (0 : Int32)) rfl ?_
  refine iLw X503 hx (hb hby at_67) (q := 69) rfl rfl ?_
  refine iLw X503 hx (hb hby at_69) (q := 71) rfl rfl ?_
  refine g_isub X503 hx (hb hby at_71) (q := 72) rfl rfl ?_
  refine g_st X503 hx hZ0 hown0 (wd14 hw) (wd15 hw) (wd16 hw) (wd17 hw) (by decide) e503 (Con.back (W := 0) (rm_imx l Z a0 hw zC SC PC vF rF SF aI SI aR SR ((lse y_479 y_484 y_488 y_492 y_496 (fse y_479 y_484 y_488 y_492 y_496)) - (fso y_479 y_484 y_488 y_492 y_496 (fse y_479 y_484 y_488 y_492 y_496))) h498 f501 ) hZ0 (wd17 hw) (wd16 hw) (by decide) (by decide)) (by rw [hml]; rfl) (lenOf pd2 rfl) rfl (Nat.le_of_eq rfl) (hb hby at_72) (q := 75) rfl (by decide) (by decide) ?_
  intro v504 T504 L504 X504 Q504
  obtain ⟨rfl, Nq504, e504⟩ := Q504
  have N504 := Fr.app N503 Nq504
  show Go _ _ _ _ (T504.setTop (mkF m 75 #[.val (.int p0), .val (.int p1), .val (.int p2), .val (.int p3), .val (.int p4), .val (.ref b478), .val (.int (fse y_479 y_484 y_488 y_492 y_496)), .val (.int (fso y_479 y_484 y_488 y_492 y_496 (fse y_479 y_484 y_488 y_492 y_496))), .val (.int (lse y_479 y_484 y_488 y_492 y_496 (fse y_479 y_484 y_488 y_492 y_496))), .unset, .unset] [(.int (imx (0 : Int32) ((lse y_479 y_484 y_488 y_492 y_496 (fse y_479 y_484 y_488 y_492 y_496)) - (fso y_479 y_484 y_488 y_492 y_496 (fse y_479 y_484 y_488 y_492 y_496)))))]))
  refine sIw X504 hx (hb hby at_75) (q := 77) rfl (Ls' := #[.val (.int p0), .val (.int p1), .val (.int p2), .val (.int p3), .val (.int p4), .val (.ref b478), .val (.int (fse y_479 y_484 y_488 y_492 y_496)), .val (.int (fso y_479 y_484 y_488 y_492 y_496 (fse y_479 y_484 y_488 y_492 y_496))), .val (.int (lse y_479 y_484 y_488 y_492 y_496 (fse y_479 y_484 y_488 y_492 y_496))), .val (.int (imx (0 : Int32) ((lse y_479 y_484 y_488 y_492 y_496 (fse y_479 y_484 y_488 y_492 y_496)) - (fso y_479 y_484 y_488 y_492 y_496 (fse y_479 y_484 y_488 y_492 y_496))))), .unset]) rfl ?_
  refine g_new X504 hx hZ0 hown0 (wd18 hw) (wd19 hw) (wd20 hw) (by decide) (by decide) e504 (hb hby at_77) (q := 80) rfl ?_
  intro T505 h505 b505 g505 X505 e505 E505 A505 D505
  have sf506 : Safe Z EL v0 h498 b505 := Safe.new (Nat.le_of_eq g505.symm)
  have F505_44 := D505 (Or.inr (wd44 hw)) (ty := .byte) (by decide)
  have F505_46 := D505 (Or.inr (wd46 hw)) (ty := (.array .byte)) (by decide)
  refine g_dup X505 hx (hb hby at_80) (q := 81) rfl rfl ?_
  refine aLw X505 hx (hb hby at_81) (q := 83) rfl rfl rfl ?_
  have f508 := f501.ext E505
  have gz509 : Z.heap.size ≤ b505 := Nat.le_trans f501.2.1 (Nat.le_of_eq g505.symm)
  have f510 := Va498.ext E505
  refine g_sp X505 hx hZ0 hown0 (wd21 hw) (wd22 hw) (wd23 hw) rfl (by decide) e505 (StrChars.Road.backV (s := (s.setVm v0)) (W := 1) hZ0 (own_wStr hw) (kI := 4) (wd19 hw) (cs := ([y_479, y_484, y_488, y_492, y_496] : List Int32)) (bs := (([y_479, y_484, y_488, y_492, y_496] : List Int32).map (fun c => c.toInt8.toInt32))) (n := 5) gz509 f508.2.1 A505 F505_46 F505_44 f510 (SC.ext f508.2) PC rfl rfl (by decide) (by decide) (alS ⟨q479_0, q479_1⟩ (alS ⟨q484_0, q484_1⟩ (alS ⟨q488_0, q488_1⟩ (alS ⟨q492_0, q492_1⟩ (alS ⟨q496_0, q496_1⟩ al0))))) rfl (by decide) (by decide)) (a := b505) (argsL := [.ref b478]) (W := 1) (nk := 1) (ns := 5) (Qc := StrChars.Road.QV Z b505 (5 : Int32) (([y_479, y_484, y_488, y_492, y_496] : List Int32).map (fun c => c.toInt8.toInt32)) h505 Z.heap.size) (by rw [hml]; rfl) (lenOf pd24 rfl) rfl (Nat.le_of_eq rfl) (hb hby at_83) (q := 86) rfl (by decide) (by decide) ?_
  intro v507 T507 L507 X507 Q507
  obtain ⟨rfl, Nq507, K507q, E507q, C507q, t507, kb507, tz507, tg507, tn507, Fv507, Va507⟩ := Q507
  have N507 := Fr.app N504 Nq507
  have Vb507 : Arv Z T507.heap t507 kb507 .byte (5 : Int32) [(.int (StrChars.lo8 y_479)), (.int (StrChars.lo8 y_484)), (.int (StrChars.lo8 y_488)), (.int (StrChars.lo8 y_492)), (.int (StrChars.lo8 y_496))] (.int 0) := Va507
  show Go _ _ _ _ (T507.setTop (mkF m 86 #[.val (.int p0), .val (.int p1), .val (.int p2), .val (.int p3), .val (.int p4), .val (.ref b478), .val (.int (fse y_479 y_484 y_488 y_492 y_496)), .val (.int (fso y_479 y_484 y_488 y_492 y_496 (fse y_479 y_484 y_488 y_492 y_496))), .val (.int (lse y_479 y_484 y_488 y_492 y_496 (fse y_479 y_484 y_488 y_492 y_496))), .val (.int (imx (0 : Int32) ((lse y_479 y_484 y_488 y_492 y_496 (fse y_479 y_484 y_488 y_492 y_496)) - (fso y_479 y_484 y_488 y_492 y_496 (fse y_479 y_484 y_488 y_492 y_496))))), .unset] [(.ref b505)]))
  have f590 := L1.ext E478
  have f591 := f590.wr W481
  have f592 := f591.wr W486
  have f593 := f592.wr W490
  have f594 := f593.wr W494
  have f595 := f594.wr W498
  have f596 := f595.ext E505
  have f597 := f596.keep K507q
  have f598 := L2.ext E478
  have ne599 : aR ≠ b478 := (Nat.ne_of_lt (Nat.lt_of_lt_of_le (Nat.lt_of_lt_of_le L1.lt (Nat.le_refl _)) (Nat.le_of_eq g478.symm)))
  have f600 := f598.other W481 (Or.inl ne599)
  have f601 := f600.other W486 (Or.inl ne599)
  have f602 := f601.other W490 (Or.inl ne599)
  have f603 := f602.other W494 (Or.inl ne599)
  have f604 := f603.other W498 (Or.inl ne599)
  have f605 := f604.ext E505
  have le606 := E478.1
  have le607 := (Nat.le_trans le606 (Nat.le_of_eq (Wr.size W481).symm))
  have le608 := (Nat.le_trans le607 (Nat.le_of_eq (Wr.size W486).symm))
  have le609 := (Nat.le_trans le608 (Nat.le_of_eq (Wr.size W490).symm))
  have le610 := (Nat.le_trans le609 (Nat.le_of_eq (Wr.size W494).symm))
  have le611 := (Nat.le_trans le610 (Nat.le_of_eq (Wr.size W498).symm))
  have ne612 : aR ≠ b505 := (Nat.ne_of_lt (Nat.lt_of_lt_of_le (Nat.lt_of_lt_of_le L1.lt le611) (Nat.le_of_eq g505.symm)))
  have f613 := f605.keep K507q (ninS ne612 nin0)
  have f614 := L3.ext E478
  have f615 := f614.wr W481
  have f616 := f615.wr W486
  have f617 := f616.wr W490
  have f618 := f617.wr W494
  have f619 := f618.wr W498
  have f620 := f619.ext E505
  have f621 := f620.keep K507q
  have f622 := L4.ext E478
  have ne623 : aB ≠ b478 := (Nat.ne_of_lt (Nat.lt_of_lt_of_le (Nat.lt_of_lt_of_le L3.lt (Nat.le_refl _)) (Nat.le_of_eq g478.symm)))
  have f624 := f622.other W481 (Or.inl ne623)
  have f625 := f624.other W486 (Or.inl ne623)
  have f626 := f625.other W490 (Or.inl ne623)
  have f627 := f626.other W494 (Or.inl ne623)
  have f628 := f627.other W498 (Or.inl ne623)
  have f629 := f628.ext E505
  have ne630 : aB ≠ b505 := (Nat.ne_of_lt (Nat.lt_of_lt_of_le (Nat.lt_of_lt_of_le L3.lt le611) (Nat.le_of_eq g505.symm)))
  have f631 := f629.keep K507q (ninS ne630 nin0)
  have f632 := L5.ext E478
  have f633 := f632.wr W481
  have f634 := f633.wr W486
  have f635 := f634.wr W490
  have f636 := f635.wr W494
  have f637 := f636.wr W498
  have f638 := f637.ext E505
  have f639 := f638.keep K507q
  have f640 := L6.ext E478
  have ne641 : aG ≠ b478 := (Nat.ne_of_lt (Nat.lt_of_lt_of_le (Nat.lt_of_lt_of_le L5.lt (Nat.le_refl _)) (Nat.le_of_eq g478.symm)))
  have f642 := f640.other W481 (Or.inl ne641)
  have f643 := f642.other W486 (Or.inl ne641)
  have f644 := f643.other W490 (Or.inl ne641)
  have f645 := f644.other W494 (Or.inl ne641)
  have f646 := f645.other W498 (Or.inl ne641)
  have f647 := f646.ext E505
  have ne648 : aG ≠ b505 := (Nat.ne_of_lt (Nat.lt_of_lt_of_le (Nat.lt_of_lt_of_le L5.lt le611) (Nat.le_of_eq g505.symm)))
  have f649 := f647.keep K507q (ninS ne648 nin0)
  have f650 := L7.ext E478
  have ne651 : aV ≠ b478 := (Nat.ne_of_lt (Nat.lt_of_lt_of_le (Nat.lt_of_lt_of_le L7.lt (Nat.le_refl _)) (Nat.le_of_eq g478.symm)))
  have f652 := f650.other W481 ne651
  have f653 := f652.other W486 ne651
  have f654 := f653.other W490 ne651
  have f655 := f654.other W494 ne651
  have f656 := f655.other W498 ne651
  have f657 := f656.ext E505
  have ne658 : aV ≠ b505 := (Nat.ne_of_lt (Nat.lt_of_lt_of_le (Nat.lt_of_lt_of_le L7.lt le611) (Nat.le_of_eq g505.symm)))
  have f659 := f657.keep K507q (ninS ne658 nin0)
  have f660 := L8.ext E478
  have f661 := f660.wr W481
  have f662 := f661.wr W486
  have f663 := f662.wr W490
  have f664 := f663.wr W494
  have f665 := f664.wr W498
  have f666 := f665.ext E505
  have f667 := f666.keep K507q
  have f668 := f508.keep K507q (allS gz509 all0)
  have f669 := f499.trans (CHr.wr W498 (Safe.arv hZ0.alike Va494 (by decide)) f499.1)
  have f670 := f669.trans (CHr.ext E505 f669.1)
  have f671 := Safe.ext E505 f669.1 sf506
  have f672 := f670.trans (CHr.keep K507q (sfS f671 sf0) f670.1)
  refine g_stS X507 hx hZ0 hown0 hS0 (Nat.zero_le _) (wd47 hw) (wd48 hw) (wd49 hw) (wd50 hw) (by decide) rfl (ConS.back (W := 0) (rm_ess l Z a0 hw zC SC PC vF rF SF aI SI aR SR b505 t507 kb507 y_479 y_484 y_488 y_492 y_496 aB aG aV kG gL T507.heap f668 E507q C507q Fv507 Vb507 q479_0 q479_1 q484_0 q484_1 q488_0 q488_1 q492_0 q492_1 q496_0 q496_1 f597 f613 f621 f631 f639 f649 f659 f667) hZ0 (wd50 hw) (wd49 hw) (by decide) (by decide) (own_EW hw) f672.1 sf0 all0) (by rw [hml]; rfl) (lenOf pd25 rfl) rfl (Nat.le_of_eq rfl) (hb hby at_86) (q := 89) rfl (by decide) (by decide) ?_
  rintro v589 T589 L589 ⟨X589, hS589, hZ589, hown589, R589⟩ Q589
  obtain ⟨r_589, ct_589, kc_589, vL_589, rfl, Nq589, K589q, q589_0, q589_1, q589_2, q589_3, q589_4⟩ := Q589
  have N589 := Fr.app N507 Nq589
  show Go _ _ _ _ (T589.setTop (mkF m 89 #[.val (.int p0), .val (.int p1), .val (.int p2), .val (.int p3), .val (.int p4), .val (.ref b478), .val (.int (fse y_479 y_484 y_488 y_492 y_496)), .val (.int (fso y_479 y_484 y_488 y_492 y_496 (fse y_479 y_484 y_488 y_492 y_496))), .val (.int (lse y_479 y_484 y_488 y_492 y_496 (fse y_479 y_484 y_488 y_492 y_496))), .val (.int (imx (0 : Int32) ((lse y_479 y_484 y_488 y_492 y_496 (fse y_479 y_484 y_488 y_492 y_496)) - (fso y_479 y_484 y_488 y_492 y_496 (fse y_479 y_484 y_488 y_492 y_496))))), .unset] [(.ref r_589)]))
  refine sAw X589 hx (hb hby at_89) (q := 91) rfl rfl (Ls' := #[.val (.int p0), .val (.int p1), .val (.int p2), .val (.int p3), .val (.int p4), .val (.ref b478), .val (.int (fse y_479 y_484 y_488 y_492 y_496)), .val (.int (fso y_479 y_484 y_488 y_492 y_496 (fse y_479 y_484 y_488 y_492 y_496))), .val (.int (lse y_479 y_484 y_488 y_492 y_496 (fse y_479 y_484 y_488 y_492 y_496))), .val (.int (imx (0 : Int32) ((lse y_479 y_484 y_488 y_492 y_496 (fse y_479 y_484 y_488 y_492 y_496)) - (fso y_479 y_484 y_488 y_492 y_496 (fse y_479 y_484 y_488 y_492 y_496))))), .val (.ref r_589)]) rfl ?_
  refine aLw X589 hx (hb hby at_91) (q := 93) rfl rfl rfl ?_
  have f674 := f668.keep K589q all0
  refine g_vi X589 hx hZ589 hown589 (wd127 hw) (wd67 hw) (notFace_of_selects (args := #[]) (mvT hZ589 (wd69 hw))) (wd69 hw) (wd68 hw) (by decide) q589_0 rfl (Con.back (W := 0) (rm_slen l Z a0 hw zC SC PC vF rF SF aI SI aR SR r_589 ct_589 kc_589 vL_589 (imx (0 : Int32) ((lse y_479 y_484 y_488 y_492 y_496 (fse y_479 y_484 y_488 y_492 y_496)) - (fso y_479 y_484 y_488 y_492 y_496 (fse y_479 y_484 y_488 y_492 y_496)))) T589.heap f674 q589_0 q589_1 q589_2 q589_3) hZ589 (wd70 hw) (wd20 hw) (by decide) (by decide)) (by rw [hml]; rfl) (lenOf pd5 rfl) rfl (Nat.le_of_eq rfl) (hb hby at_93) (q := 96) rfl (by decide) (by decide) ?_
  intro v673 T673 L673 X673 Q673
  obtain ⟨rfl, Nq673, e673⟩ := Q673
  have N673 := Fr.app N589 Nq673
  show Go _ _ _ _ (T673.setTop (mkF m 96 #[.val (.int p0), .val (.int p1), .val (.int p2), .val (.int p3), .val (.int p4), .val (.ref b478), .val (.int (fse y_479 y_484 y_488 y_492 y_496)), .val (.int (fso y_479 y_484 y_488 y_492 y_496 (fse y_479 y_484 y_488 y_492 y_496))), .val (.int (lse y_479 y_484 y_488 y_492 y_496 (fse y_479 y_484 y_488 y_492 y_496))), .val (.int (imx (0 : Int32) ((lse y_479 y_484 y_488 y_492 y_496 (fse y_479 y_484 y_488 y_492 y_496)) - (fso y_479 y_484 y_488 y_492 y_496 (fse y_479 y_484 y_488 y_492 y_496))))), .val (.ref r_589)] [(.int (imx (0 : Int32) ((lse y_479 y_484 y_488 y_492 y_496 (fse y_479 y_484 y_488 y_492 y_496)) - (fso y_479 y_484 y_488 y_492 y_496 (fse y_479 y_484 y_488 y_492 y_496)))))]))
  refine iLw X673 hx (hb hby at_96) (q := 98) rfl rfl ?_
  refine icY X673 hx (hb hby at_98) (q := 103) (by decide) (by decide) (teq rfl).1 ?_
  refine aLw X673 hx (hb hby at_103) (q := 105) rfl rfl rfl ?_
  refine cI X673 hx (hb hby at_105) (q := 106) rfl (z := (0 : Int32)) rfl ?_
  refine iLw X673 hx (hb hby at_106) (q := 108) rfl rfl ?_
  refine aLw X673 hx (hb hby at_108) (q := 110) rfl rfl rfl ?_
  refine iLw X673 hx (hb hby at_110) (q := 112) rfl rfl ?_
  have le684 := (Nat.le_of_eq (Wr.size W481).symm)
  have le685 := (Nat.le_trans le684 (Nat.le_of_eq (Wr.size W486).symm))
  have le686 := (Nat.le_trans le685 (Nat.le_of_eq (Wr.size W490).symm))
  have le687 := (Nat.le_trans le686 (Nat.le_of_eq (Wr.size W494).symm))
  have le688 := (Nat.le_trans le687 (Nat.le_of_eq (Wr.size W498).symm))
  have ne689 : b478 ≠ b505 := (Nat.ne_of_lt (Nat.lt_of_lt_of_le (Nat.lt_of_lt_of_le Va478.lt le688) (Nat.le_of_eq g505.symm)))
  have f690 := f510.keep K507q (ninS ne689 nin0)
  have f691 := f690.keep K589q nin0
  refine g_st X673 hx hZ589 hown589 (wd128 hw) (wd129 hw) (wd3 hw) (wd130 hw) (by decide) e673 (Con.back (W := 0) (rm_at0 l Z a0 hw zC SC PC vF rF SF aI SI aR SR r_589 ct_589 kc_589 vL_589 (imx (0 : Int32) ((lse y_479 y_484 y_488 y_492 y_496 (fse y_479 y_484 y_488 y_492 y_496)) - (fso y_479 y_484 y_488 y_492 y_496 (fse y_479 y_484 y_488 y_492 y_496)))) (fso y_479 y_484 y_488 y_492 y_496 (fse y_479 y_484 y_488 y_492 y_496)) b478 k478 y_479 y_484 y_488 y_492 y_496 T589.heap f674 q589_0 q589_1 q589_2 q589_3 f691 q589_4 q479_0 q479_1 q484_0 q484_1 q488_0 q488_1 q492_0 q492_1 q496_0 q496_1) hZ589 (wd130 hw) (wd3 hw) (by decide) (by decide)) (by rw [hml]; rfl) (lenOf pd26 rfl) rfl (Nat.le_of_eq rfl) (hb hby at_112) (q := 115) rfl (by decide) (by decide) ?_
  intro v683 T683 L683 X683 Q683
  obtain ⟨rfl, Nq683, e683⟩ := Q683
  have N683 := Fr.app N673 Nq683
  show Go _ _ _ _ (T683.setTop (mkF m 115 #[.val (.int p0), .val (.int p1), .val (.int p2), .val (.int p3), .val (.int p4), .val (.ref b478), .val (.int (fse y_479 y_484 y_488 y_492 y_496)), .val (.int (fso y_479 y_484 y_488 y_492 y_496 (fse y_479 y_484 y_488 y_492 y_496))), .val (.int (lse y_479 y_484 y_488 y_492 y_496 (fse y_479 y_484 y_488 y_492 y_496))), .val (.int (imx (0 : Int32) ((lse y_479 y_484 y_488 y_492 y_496 (fse y_479 y_484 y_488 y_492 y_496)) - (fso y_479 y_484 y_488 y_492 y_496 (fse y_479 y_484 y_488 y_492 y_496))))), .val (.ref r_589)] [(iv 1)]))
  refine ifN X683 hx (hb hby at_115) (q := 118) rfl (by decide) ?_
  refine aLw X683 hx (hb hby at_118) (q := 120) rfl rfl rfl ?_
  refine cI X683 hx (hb hby at_120) (q := 121) rfl (z := (1 : Int32)) rfl ?_
  refine iLw X683 hx (hb hby at_121) (q := 123) rfl rfl ?_
  refine aLw X683 hx (hb hby at_123) (q := 125) rfl rfl rfl ?_
  refine iLw X683 hx (hb hby at_125) (q := 127) rfl rfl ?_
  refine g_st X683 hx hZ589 hown589 (wd128 hw) (wd129 hw) (wd3 hw) (wd130 hw) (by decide) e683 (Con.back (W := 0) (rm_at1 l Z a0 hw zC SC PC vF rF SF aI SI aR SR r_589 ct_589 kc_589 vL_589 (imx (0 : Int32) ((lse y_479 y_484 y_488 y_492 y_496 (fse y_479 y_484 y_488 y_492 y_496)) - (fso y_479 y_484 y_488 y_492 y_496 (fse y_479 y_484 y_488 y_492 y_496)))) (fso y_479 y_484 y_488 y_492 y_496 (fse y_479 y_484 y_488 y_492 y_496)) b478 k478 y_479 y_484 y_488 y_492 y_496 T589.heap f674 q589_0 q589_1 q589_2 q589_3 f691 q589_4 q479_0 q479_1 q484_0 q484_1 q488_0 q488_1 q492_0 q492_1 q496_0 q496_1) hZ589 (wd130 hw) (wd3 hw) (by decide) (by decide)) (by rw [hml]; rfl) (lenOf pd26 rfl) rfl (Nat.le_of_eq rfl) (hb hby at_127) (q := 130) rfl (by decide) (by decide) ?_
  intro v692 T692 L692 X692 Q692
  obtain ⟨rfl, Nq692, e692⟩ := Q692
  have N692 := Fr.app N683 Nq692
  show Go _ _ _ _ (T692.setTop (mkF m 130 #[.val (.int p0), .val (.int p1), .val (.int p2), .val (.int p3), .val (.int p4), .val (.ref b478), .val (.int (fse y_479 y_484 y_488 y_492 y_496)), .val (.int (fso y_479 y_484 y_488 y_492 y_496 (fse y_479 y_484 y_488 y_492 y_496))), .val (.int (lse y_479 y_484 y_488 y_492 y_496 (fse y_479 y_484 y_488 y_492 y_496))), .val (.int (imx (0 : Int32) ((lse y_479 y_484 y_488 y_492 y_496 (fse y_479 y_484 y_488 y_492 y_496)) - (fso y_479 y_484 y_488 y_492 y_496 (fse y_479 y_484 y_488 y_492 y_496))))), .val (.ref r_589)] [(iv 1)]))
  refine ifN X692 hx (hb hby at_130) (q := 133) rfl (by decide) ?_
  refine aLw X692 hx (hb hby at_133) (q := 135) rfl rfl rfl ?_
  refine cI X692 hx (hb hby at_135) (q := 136) rfl (z := (2 : Int32)) rfl ?_
  refine iLw X692 hx (hb hby at_136) (q := 138) rfl rfl ?_
  refine aLw X692 hx (hb hby at_138) (q := 140) rfl rfl rfl ?_
  refine iLw X692 hx (hb hby at_140) (q := 142) rfl rfl ?_
  refine g_st X692 hx hZ589 hown589 (wd128 hw) (wd129 hw) (wd3 hw) (wd130 hw) (by decide) e692 (Con.back (W := 0) (rm_at2 l Z a0 hw zC SC PC vF rF SF aI SI aR SR r_589 ct_589 kc_589 vL_589 (imx (0 : Int32) ((lse y_479 y_484 y_488 y_492 y_496 (fse y_479 y_484 y_488 y_492 y_496)) - (fso y_479 y_484 y_488 y_492 y_496 (fse y_479 y_484 y_488 y_492 y_496)))) (fso y_479 y_484 y_488 y_492 y_496 (fse y_479 y_484 y_488 y_492 y_496)) b478 k478 y_479 y_484 y_488 y_492 y_496 T589.heap f674 q589_0 q589_1 q589_2 q589_3 f691 q589_4 q479_0 q479_1 q484_0 q484_1 q488_0 q488_1 q492_0 q492_1 q496_0 q496_1) hZ589 (wd130 hw) (wd3 hw) (by decide) (by decide)) (by rw [hml]; rfl) (lenOf pd26 rfl) rfl (Nat.le_of_eq rfl) (hb hby at_142) (q := 145) rfl (by decide) (by decide) ?_
  intro v693 T693 L693 X693 Q693
  obtain ⟨rfl, Nq693, e693⟩ := Q693
  have N693 := Fr.app N692 Nq693
  show Go _ _ _ _ (T693.setTop (mkF m 145 #[.val (.int p0), .val (.int p1), .val (.int p2), .val (.int p3), .val (.int p4), .val (.ref b478), .val (.int (fse y_479 y_484 y_488 y_492 y_496)), .val (.int (fso y_479 y_484 y_488 y_492 y_496 (fse y_479 y_484 y_488 y_492 y_496))), .val (.int (lse y_479 y_484 y_488 y_492 y_496 (fse y_479 y_484 y_488 y_492 y_496))), .val (.int (imx (0 : Int32) ((lse y_479 y_484 y_488 y_492 y_496 (fse y_479 y_484 y_488 y_492 y_496)) - (fso y_479 y_484 y_488 y_492 y_496 (fse y_479 y_484 y_488 y_492 y_496))))), .val (.ref r_589)] [(iv 1)]))
  refine ifN X693 hx (hb hby at_145) (q := 148) rfl (by decide) ?_
  refine aLw X693 hx (hb hby at_148) (q := 150) rfl rfl rfl ?_
  refine cI X693 hx (hb hby at_150) (q := 151) rfl (z := (3 : Int32)) rfl ?_
  refine iLw X693 hx (hb hby at_151) (q := 153) rfl rfl ?_
  refine aLw X693 hx (hb hby at_153) (q := 155) rfl rfl rfl ?_
  refine iLw X693 hx (hb hby at_155) (q := 157) rfl rfl ?_
  refine g_st X693 hx hZ589 hown589 (wd128 hw) (wd129 hw) (wd3 hw) (wd130 hw) (by decide) e693 (Con.back (W := 0) (rm_at3 l Z a0 hw zC SC PC vF rF SF aI SI aR SR r_589 ct_589 kc_589 vL_589 (imx (0 : Int32) ((lse y_479 y_484 y_488 y_492 y_496 (fse y_479 y_484 y_488 y_492 y_496)) - (fso y_479 y_484 y_488 y_492 y_496 (fse y_479 y_484 y_488 y_492 y_496)))) (fso y_479 y_484 y_488 y_492 y_496 (fse y_479 y_484 y_488 y_492 y_496)) b478 k478 y_479 y_484 y_488 y_492 y_496 T589.heap f674 q589_0 q589_1 q589_2 q589_3 f691 q589_4 q479_0 q479_1 q484_0 q484_1 q488_0 q488_1 q492_0 q492_1 q496_0 q496_1) hZ589 (wd130 hw) (wd3 hw) (by decide) (by decide)) (by rw [hml]; rfl) (lenOf pd26 rfl) rfl (Nat.le_of_eq rfl) (hb hby at_157) (q := 160) rfl (by decide) (by decide) ?_
  intro v694 T694 L694 X694 Q694
  obtain ⟨rfl, Nq694, e694⟩ := Q694
  have N694 := Fr.app N693 Nq694
  show Go _ _ _ _ (T694.setTop (mkF m 160 #[.val (.int p0), .val (.int p1), .val (.int p2), .val (.int p3), .val (.int p4), .val (.ref b478), .val (.int (fse y_479 y_484 y_488 y_492 y_496)), .val (.int (fso y_479 y_484 y_488 y_492 y_496 (fse y_479 y_484 y_488 y_492 y_496))), .val (.int (lse y_479 y_484 y_488 y_492 y_496 (fse y_479 y_484 y_488 y_492 y_496))), .val (.int (imx (0 : Int32) ((lse y_479 y_484 y_488 y_492 y_496 (fse y_479 y_484 y_488 y_492 y_496)) - (fso y_479 y_484 y_488 y_492 y_496 (fse y_479 y_484 y_488 y_492 y_496))))), .val (.ref r_589)] [(iv 1)]))
  refine ifN X694 hx (hb hby at_160) (q := 163) rfl (by decide) ?_
  refine aLw X694 hx (hb hby at_163) (q := 165) rfl rfl rfl ?_
  refine cI X694 hx (hb hby at_165) (q := 166) rfl (z := (4 : Int32)) rfl ?_
  refine iLw X694 hx (hb hby at_166) (q := 168) rfl rfl ?_
  refine aLw X694 hx (hb hby at_168) (q := 170) rfl rfl rfl ?_
  refine iLw X694 hx (hb hby at_170) (q := 172) rfl rfl ?_
  refine g_st X694 hx hZ589 hown589 (wd128 hw) (wd129 hw) (wd3 hw) (wd130 hw) (by decide) e694 (Con.back (W := 0) (rm_at4 l Z a0 hw zC SC PC vF rF SF aI SI aR SR r_589 ct_589 kc_589 vL_589 (imx (0 : Int32) ((lse y_479 y_484 y_488 y_492 y_496 (fse y_479 y_484 y_488 y_492 y_496)) - (fso y_479 y_484 y_488 y_492 y_496 (fse y_479 y_484 y_488 y_492 y_496)))) (fso y_479 y_484 y_488 y_492 y_496 (fse y_479 y_484 y_488 y_492 y_496)) b478 k478 y_479 y_484 y_488 y_492 y_496 T589.heap f674 q589_0 q589_1 q589_2 q589_3 f691 q589_4 q479_0 q479_1 q484_0 q484_1 q488_0 q488_1 q492_0 q492_1 q496_0 q496_1) hZ589 (wd130 hw) (wd3 hw) (by decide) (by decide)) (by rw [hml]; rfl) (lenOf pd26 rfl) rfl (Nat.le_of_eq rfl) (hb hby at_172) (q := 175) rfl (by decide) (by decide) ?_
  intro v695 T695 L695 X695 Q695
  obtain ⟨rfl, Nq695, e695⟩ := Q695
  have N695 := Fr.app N694 Nq695
  show Go _ _ _ _ (T695.setTop (mkF m 175 #[.val (.int p0), .val (.int p1), .val (.int p2), .val (.int p3), .val (.int p4), .val (.ref b478), .val (.int (fse y_479 y_484 y_488 y_492 y_496)), .val (.int (fso y_479 y_484 y_488 y_492 y_496 (fse y_479 y_484 y_488 y_492 y_496))), .val (.int (lse y_479 y_484 y_488 y_492 y_496 (fse y_479 y_484 y_488 y_492 y_496))), .val (.int (imx (0 : Int32) ((lse y_479 y_484 y_488 y_492 y_496 (fse y_479 y_484 y_488 y_492 y_496)) - (fso y_479 y_484 y_488 y_492 y_496 (fse y_479 y_484 y_488 y_492 y_496))))), .val (.ref r_589)] [(iv 1)]))
  refine ifN X695 hx (hb hby at_175) (q := 178) rfl (by decide) ?_
  refine cI X695 hx (hb hby at_178) (q := 179) rfl (z := (1 : Int32)) rfl ?_
  refine g_goto X695 hx (hb hby at_179) (q := 183) (by decide) (by decide) ?_
  have f696 := f672.trans R589
  refine endC X695 hlk hS589 (by rw [e695]; exact (Nat.le_trans (Nat.le_refl _) (Nat.le_refl _))) hZ589 (own_EW hw) (by rw [e695]; exact f696) (fun h => by rw [hret] at h; cases h) (lastN X695 hx (t := .boolean) (z' := (1 : Int32)) hret (by simp) (by decide) (hb hby at_183)) ?_ (by decide) (by decide)
  rw [e695]
  exact ⟨rfl, N695, trivial⟩
theorem own_len0 {s : State} {args : Array Value} {t : Term} {a : Addr} {c : Cell} {ty : FieldType} (hf : Fit s) (ev : t.eval args s none [] s = some (.ref a)) (A : Arr s s.heap a c ty) (h : (Jvm.Cond.eq (Term.length t) (Term.int (0 : Int32))).value args s none s [] = some true) : Arv s s.heap a c.cls ty (0 : Int32) [] .null := by
  have hA := A.fin (Vm.Alike.refl _)
  obtain ⟨xv, yv, e1, e2, -, -⟩ := cmp_v (Or.inl h)
  have hlt : c.slots.size < 2 ^ 31 := by
    by_cases hq : c.slots.size < 2 ^ 31
    · exact hq
    · simp [Term.eval, ev, hA, hq] at e1
  have e3 := len_f ev hA hlt
  have h0 := gotT (Cond.eq_ints e3 (Term.int_eval (0))) h
  exact Arv.start hf A hlt h0 (by decide) (by decide) trivial
theorem own_fld0 {s : State} {args : Array Value} {t : Term} {a : Addr} {C n d : String} {k : Int32} (ev : t.eval args s none [] s = some (.ref a)) (h : (Jvm.Cond.eq (Term.field t C n d) (Term.int k)).value args s none s [] = some true) : Fld s s.heap a C n d (.int k) := by
  obtain ⟨xv, yv, e1, e2, k1, k2⟩ := cmp_v (Or.inl h)
  cases (Term.int_eval k).symm.trans e2
  obtain ⟨z, rfl⟩ := k2
  have h0 := gotT (Cond.eq_ints e1 (Term.int_eval k)) h
  subst h0
  exact Fld.start ((fld_at ev).symm.trans e1)
theorem own_sta {s : State} {args : Array Value} {C n d : String} {k : Int32} (h : (Jvm.Cond.eq (Term.static C n d) (Term.int k)).before args s = true) (w : (Jvm.Cond.initializedFor C n d).before args s = true) : Sta s s.heap C n d (.int k) := by
  have h := Cond.before_iff.mp h
  obtain ⟨xv, yv, e1, e2, k1, k2⟩ := cmp_v (Or.inl h)
  cases (Term.int_eval k).symm.trans e2
  obtain ⟨z, rfl⟩ := k2
  have h0 := gotT (Cond.eq_ints e1 (Term.int_eval k)) h
  subst h0
  exact Sta.start e1 (Or.inl w)
theorem arv_nil {Z : State} {h : Heap} {a : Addr} {k : ClassId} {ty : FieldType} {d d' : Value} (F : Arv Z h a k ty 0 [] d) : Arv Z h a k ty 0 [] d' := by
  obtain ⟨c, A, r1, r2, r3, H, G⟩ := F
  have q : ∀ i, ¬ i < c.slots.size := fun i hi => by rw [r2] at hi; exact absurd hi (Nat.not_lt_zero _)
  exact ⟨c, A, r1, r2, r3, fun i hi => absurd hi (q i), fun i hi => absurd hi (q i)⟩
theorem comes_1 {Post : Tables → Env → Array Value → State → Outcome → State → Prop} (hpost : ∀ tb e args s v u, (limb_1_1.after args s (.returned v) u = true ∧ limb_1_2.after args s (.returned v) u = true) → ReturnedEndW s (.returned v) u (Jvm.fieldLocs frame_1_writes args s ++ Jvm.arrayLocs frame_1_arrays args s ++ Jvm.staticLocs frame_1_statics s) 40 4288 → Post tb e args s (.returned v) u) :
    ArmFor flags0 classFile x code maxLocals ret World_1 tables_1 room_1 Calls_1 rest_1 Pre_1 Post := by
  intro l hfl _ _ p e ha hc hk s m args below hf hA hF happ hP
  obtain ⟨hcalls, hrest, hpre⟩ := hP
  obtain ⟨-, -, -, hnamed, -, -, -, hat⟩ := (Spec.applies_iff hf).mp happ
  obtain ⟨hg, hn⟩ := and_e (Cond.before_iff.mp (show (Jvm.Cond.and given_1 narrow_1).before args s = true from hpre))
  obtain ⟨g0, r0⟩ := and_e hg
  obtain ⟨i0, r1⟩ := and_e r0
  obtain ⟨i1, r2⟩ := and_e r1
  obtain ⟨i2, r3⟩ := and_e r2
  obtain ⟨i3, r4⟩ := and_e r3
  obtain ⟨w0, w1, w2, w3, w4, rfl⟩ : ∃ w0 w1 w2 w3 w4 : Value, args = #[w0, w1, w2, w3, w4] := by
    have hs : args.size = 5 := by simpa [Cond.value, given_1] using g0
    obtain ⟨L⟩ := args
    match L, hs with
    | [w0, w1, w2, w3, w4], _ => exact ⟨w0, w1, w2, w3, w4, rfl⟩
  have hw := fun d (hd : d ∈ tables_1) => atoms_spec (ws := Jvm.Cond.code x code maxLocals ret :: tables_1) hat d (List.mem_cons_of_mem _ hd)
  obtain ⟨hsets, hown0⟩ := atoms_of _ (rest_1_c_eq ▸ (show rest_1_c.before _ s = true from hrest))
  have hfit : Fit s := fun {y c} hc i hi => by
    obtain ⟨ha, rfl⟩ := Array.getElem?_eq_some_iff.mp hc
    have q := List.all_eq_true.mp ((Array.all_eq_true_iff_forall_mem.mp hF) _ (Array.getElem_mem ha)) i (List.mem_range.mpr hi)
    simpa [Array.getElem?_eq_getElem hi] using q
  obtain ⟨z0, q0⟩ := is_v i0
  obtain rfl : w0 = (.int z0) := Option.some.inj q0
  obtain ⟨z1, q1⟩ := is_v i1
  obtain rfl : w1 = (.int z1) := Option.some.inj q1
  obtain ⟨z2, q2⟩ := is_v i2
  obtain rfl : w2 = (.int z2) := Option.some.inj q2
  obtain ⟨z3, q3⟩ := is_v i3
  obtain rfl : w3 = (.int z3) := Option.some.inj q3
  obtain ⟨z4, q4⟩ := is_v r4
  obtain rfl : w4 = (.int z4) := Option.some.inj q4
  have n5 := not_v (Cond.before_iff.mp (hsets _ (List.mem_of_getElem? (i := 2) rfl)))
  obtain ⟨zC, ezC⟩ := is_v (Cond.before_iff.mp (hsets _ (List.mem_of_getElem? (i := 1) rfl)))
  have SC : Sta s s.heap sT0 "COMPACT_STRINGS" "Z" (.int zC) := Sta.start ezC (Or.inl (hsets _ (List.mem_of_getElem? (i := 0) rfl)))
  have PC : ¬ (zC = (0 : Int32)) := gotF (Cond.eq_ints ezC (Term.int_eval (0))) n5
  obtain ⟨vF, evF, rF0⟩ := isR_v (Cond.before_iff.mp (hsets _ (List.mem_of_getElem? (i := 8) rfl)))
  have rF := ref_cases rF0
  have SF : Sta s s.heap "jdk/internal/util/Preconditions" "SIOOBE_FORMATTER" "Ljava/util/function/BiFunction;" vF := Sta.start evF (Or.inl (hsets _ (List.mem_of_getElem? (i := 7) rfl)))
  have x1 := Cond.before_iff.mp (hsets _ (List.mem_of_getElem? (i := 20) rfl))
  obtain ⟨aI, eI⟩ := exa_v x1
  have SI : Sta s s.heap "java/lang/CharacterDataLatin1" "instance" "Ljava/lang/CharacterDataLatin1;" (.ref aI) := Sta.start eI (Or.inl (hsets _ (List.mem_of_getElem? (i := 19) rfl)))
  have L8 := Exa.start eI x1
  have x2 := Cond.before_iff.mp (hsets _ (List.mem_of_getElem? (i := 11) rfl))
  obtain ⟨aR, eR⟩ := exa_v x2
  have SR : Sta s s.heap "java/util/Locale" "ROOT" "Ljava/util/Locale;" (.ref aR) := Sta.start eR (Or.inl (hsets _ (List.mem_of_getElem? (i := 10) rfl)))
  have L1 := Exa.start eR x2
  have x3 := Cond.before_iff.mp (hsets _ (List.mem_of_getElem? (i := 12) rfl))
  obtain ⟨aB, eB⟩ := exa_v x3
  have L2 := Fld.start ((fld_at eR).symm.trans eB)
  have L3 := Exa.start eB x3
  have x4 := Cond.before_iff.mp (hsets _ (List.mem_of_getElem? (i := 13) rfl))
  obtain ⟨aG, eG⟩ := exa_v x4
  have L4 := Fld.start ((fld_at eB).symm.trans eG)
  have L5 := Exa.start eG x4
  have x5 := Cond.before_iff.mp (hsets _ (List.mem_of_getElem? (i := 15) rfl))
  obtain ⟨aV, eV⟩ := arr_v x5
  have L6 := Fld.start ((fld_at eG).symm.trans eV)
  obtain ⟨cV, arV⟩ := Arr.start eV x5
  have L7 := arv_nil (d' := .int 0) (own_len0 hfit eV arV (Cond.before_iff.mp (hsets _ (List.mem_of_getElem? (i := 17) rfl))))
  have hCH : CHv s EL s.vm s.heap := CHv.start (own_EW hw) hcalls.1 (hsets _ (List.mem_of_getElem? (i := 2) rfl)) (wd36 hw) (wd19 hw)
  obtain ⟨n, o, h1, h2, h3, _, L, rfl, hq1, -, hq⟩ := rm_law l s _ hw zC SC PC vF rF SF aI SI aR SR z0 z1 z2 z3 z4 aB aG aV _ _ s.heap (Old.start s) L1 L2 L3 L4 L5 L6 L7 L8 tables_1 p e ha hc hk s m _ below hf ((Spec.applies_iff_loose hf).mp happ).1 ⟨rfl, State.Warmed39.refl s, rfl, hCH, fun _ q => nomatch q⟩ trivial
  obtain ⟨rfl, N, -⟩ := hq1
  exact ⟨n, _, h1, h2, h3, hpost _ _ _ _ _ _ ⟨Cond.after_iff.mpr rfl, Cond.after_iff.mpr (eq_i res_at (Term.int_eval (1)) rfl)⟩ ⟨hq.1, hq.2.1, hq.2.2.1, hq.2.2.2.sift fun y hy => Or.inr (N y hy)⟩⟩
theorem main_1_1 : Claimed_1_1 := comes_1 fun _ _ _ _ _ _ h hF => ⟨h.1, hF⟩
theorem main_1_2 : Claimed_1_2 := comes_1 fun _ _ _ _ _ _ h hF => ⟨h.2, hF⟩
end Jvm.Pilot.@@N@@
namespace Jvm.Pilot.@@N@@
open Jvm Jvm.ClassFile Sem Op Lib Jvm.Free Jvm.Stand Jvm.Pilot.@@N@@.Jvm.D
/-! MADE BY PROGRAM (witnessworld.py) out of the Statement's table words and the real class files: 27 classes; the members and pool entries that the words name. The judged class is class 1, her method 7. -/
namespace start1
open Jvm.ClassFile
def u (s : String) : CpInfo := .utf8 (stringToUtf16 s)
/-- a pool by its gaps: so many unusable entries, then the entry; so many at the end -/
def gap : Nat → List CpInfo → List CpInfo
  | 0, r => r
  | n + 1, r => .unusable :: gap n r
def poolList (es : List (Nat × CpInfo)) (last : Nat) : List CpInfo := es.foldr (fun e r => gap e.1 (e.2 :: r)) (gap last [])
def pool (es : List (Nat × CpInfo)) (last : Nat) : Array CpInfo := ⟨poolList es last⟩
def fileOf (pool : Array CpInfo) (this : Nat) (attrs : Array Attribute := #[]) (ms : Array MethodInfo := #[]) (fl : Nat := 33) (sup : Nat := 0) (ifs : Array Nat := #[]) (fds : Array FieldInfo := #[]) : ClassFile where
  minorVersion := 0
  majorVersion := 65
  constantPool := pool
  accessFlags := fl
  thisClass := this
  superClass := sup
  interfaces := ifs
  fields := fds
  methods := ms
  attributes := attrs
def plain (name : String) (sup : Option ClassId) : Class where
  name := name
  kind := .ordinary
  loader := none
  accessFlags := 33
  super := sup
  interfaces := #[]
  cf := none
  fields := #[]
  methods := #[]
  instanceTypes := #[]
  staticTypes := #[]
  resolved := #[]
  callSites := []
  init := .initialized
  statics := none
  mirror := none

def pool0 : Array CpInfo := pool [(5, u "<init>"), (0, u "()V"), (1, .class_ 10), (1, u "java/lang/Object")] 113

def k0c0 : Code := { maxStack := 0, maxLocals := 1, code := object_method_1_code, exceptionTable := #[], attributes := #[] }
def k0m0 : Method := { name := "<init>", desc := "()V", sig := { parameters := [], returnType := none }, accessFlags := 1, code := some k0c0 }
/-- java/lang/Object -/
def k0 : Class := { plain "java/lang/Object" none with
  accessFlags := 33
  interfaces := #[]
  cf := some (fileOf pool0 8 #[] #[{ accessFlags := 1, nameIndex := 5, descriptorIndex := 6, attributes := #[] }] 33 0 #[] #[])
  fields := #[]
  methods := #[k0m0]
  instanceTypes := #[]
  staticTypes := #[]
  resolved := Array.replicate 124 none
  statics := none }

def pool1 : Array CpInfo := pool [(2, .class_ 4), (1, u "java/lang/Object"), (0, u "<init>"), (0, u "()V"), (0, .methodref 8 9), (0, .class_ 10), (0, .nameAndType 11 12), (0, u "java/lang/String"), (0, u "charAt"), (0, u "(I)C"), (0, .methodref 14 15), (0, .class_ 16), (0, .nameAndType 17 18), (0, u "com/example/handoff/handoff/internal/MediaTypesEssencePinLaw"), (0, u "lower"), (0, u "(C)C"), (0, .methodref 14 20), (0, .nameAndType 21 12), (0, u "draw"), (0, .methodref 14 23), (0, .nameAndType 24 25), (0, u "firstSemi"), (0, u "([C)I"), (0, .methodref 14 27), (0, .nameAndType 28 29), (0, u "firstSolid"), (0, u "([CI)I"), (0, .methodref 14 31), (0, .nameAndType 32 29), (0, u "lastSolidEnd"), (0, .methodref 34 35), (0, .class_ 36), (0, .nameAndType 37 38), (0, u "java/lang/Math"), (0, u "max"), (0, u "(II)I"), (0, .methodref 8 40), (0, .nameAndType 5 41), (0, u "([C)V"), (0, .methodref 43 44), (0, .class_ 45), (0, .nameAndType 46 47), (0, u "com/example/handoff/handoff/internal/MediaTypes"), (0, u "essence"), (0, u "(Ljava/lang/String;)Ljava/lang/String;"), (0, .methodref 8 49), (0, .nameAndType 50 51), (0, u "length"), (0, u "()I"), (0, .methodref 14 53), (0, .nameAndType 54 55), (0, u "at"), (0, u "(Ljava/lang/String;II[CI)Z"), (3, u "law"), (0, u "(IIIII)Z")] 4

def k1m0 : Method := { name := "<init>", desc := "()V", sig := { parameters := [], returnType := none }, accessFlags := 2, code := none }
def k1c1 : Code := { maxStack := 2, maxLocals := 2, code := method_2_code, exceptionTable := #[], attributes := #[] }
def k1m1 : Method := { name := "draw", desc := "(I)C", sig := { parameters := [.int], returnType := some .char }, accessFlags := 10, code := some k1c1 }
def k1c2 : Code := { maxStack := 2, maxLocals := 1, code := method_3_code, exceptionTable := #[], attributes := #[] }
def k1m2 : Method := { name := "lower", desc := "(C)C", sig := { parameters := [.char], returnType := some .char }, accessFlags := 10, code := some k1c2 }
def k1c3 : Code := { maxStack := 2, maxLocals := 1, code := method_4_code, exceptionTable := #[], attributes := #[] }
def k1m3 : Method := { name := "firstSemi", desc := "([C)I", sig := { parameters := [(.array .char)], returnType := some .int }, accessFlags := 10, code := some k1c3 }
def k1c4 : Code := { maxStack := 2, maxLocals := 2, code := method_5_code, exceptionTable := #[], attributes := #[] }
def k1m4 : Method := { name := "firstSolid", desc := "([CI)I", sig := { parameters := [(.array .char), .int], returnType := some .int }, accessFlags := 10, code := some k1c4 }
def k1c5 : Code := { maxStack := 2, maxLocals := 2, code := method_6_code, exceptionTable := #[], attributes := #[] }
def k1m5 : Method := { name := "lastSolidEnd", desc := "([CI)I", sig := { parameters := [(.array .char), .int], returnType := some .int }, accessFlags := 10, code := some k1c5 }
def k1c6 : Code := { maxStack := 4, maxLocals := 5, code := method_7_code, exceptionTable := #[], attributes := #[] }
def k1m6 : Method := { name := "at", desc := "(Ljava/lang/String;II[CI)Z", sig := { parameters := [(.object "java/lang/String"), .int, .int, (.array .char), .int], returnType := some .boolean }, accessFlags := 10, code := some k1c6 }
def k1c7 : Code := { maxStack := 5, maxLocals := 11, code := code, exceptionTable := #[], attributes := #[] }
def k1m7 : Method := { name := "law", desc := "(IIIII)Z", sig := { parameters := [.int, .int, .int, .int, .int], returnType := some .boolean }, accessFlags := 9, code := some k1c7 }
/-- com/example/handoff/handoff/internal/MediaTypesEssencePinLaw -/
def k1 : Class := { plain "com/example/handoff/handoff/internal/MediaTypesEssencePinLaw" (some 0) with
  accessFlags := 49
  interfaces := #[]
  cf := some (fileOf pool1 14 #[] #[{ accessFlags := 2, nameIndex := 5, descriptorIndex := 6, attributes := #[] }, { accessFlags := 10, nameIndex := 21, descriptorIndex := 12, attributes := #[] }, { accessFlags := 10, nameIndex := 17, descriptorIndex := 18, attributes := #[] }, { accessFlags := 10, nameIndex := 24, descriptorIndex := 25, attributes := #[] }, { accessFlags := 10, nameIndex := 28, descriptorIndex := 29, attributes := #[] }, { accessFlags := 10, nameIndex := 32, descriptorIndex := 29, attributes := #[] }, { accessFlags := 10, nameIndex := 54, descriptorIndex := 55, attributes := #[] }, { accessFlags := 9, nameIndex := 59, descriptorIndex := 60, attributes := #[] }] 49 2 #[] #[])
  fields := #[]
  methods := #[k1m0, k1m1, k1m2, k1m3, k1m4, k1m5, k1m6, k1m7]
  instanceTypes := #[]
  staticTypes := #[]
  resolved := Array.replicate 65 none
  statics := none }

def pool2 : Array CpInfo := pool [(1, .class_ 2), (0, u "java/lang/Math"), (1, .class_ 6), (1, u "java/lang/Object"), (0, u "<init>"), (0, u "()V"), (89, .class_ 100), (1, u "java/lang/Math$RandomNumberGeneratorHolder"), (71, u "negativeZeroFloatBits"), (0, u "J"), (2, u "negativeZeroDoubleBits"), (21, u "max"), (2, u "min"), (43, u "$assertionsDisabled"), (0, u "Z"), (88, u "(II)I"), (2, u "twoToTheDoubleScaleDown"), (0, u "D"), (4, u "twoToTheDoubleScaleUp"), (9, u "E"), (3, u "PI"), (2, u "TAU"), (2, u "DEGREES_TO_RADIANS"), (0, u "RADIANS_TO_DEGREES")] 94

def k2m0 : Method := { name := "<init>", desc := "()V", sig := { parameters := [], returnType := none }, accessFlags := 2, code := none }
def k2c1 : Code := { maxStack := 2, maxLocals := 2, code := jdk_29_method_65_code, exceptionTable := #[], attributes := #[] }
def k2m1 : Method := { name := "max", desc := "(II)I", sig := { parameters := [.int, .int], returnType := some .int }, accessFlags := 9, code := some k2c1 }
def k2c2 : Code := { maxStack := 2, maxLocals := 2, code := jdk_29_method_69_code, exceptionTable := #[], attributes := #[] }
def k2m2 : Method := { name := "min", desc := "(II)I", sig := { parameters := [.int, .int], returnType := some .int }, accessFlags := 9, code := some k2c2 }
/-- java/lang/Math -/
def k2 : Class := { plain "java/lang/Math" (some 0) with
  accessFlags := 49
  interfaces := #[]
  cf := some (fileOf pool2 1 #[.nestMembers #[98]] #[{ accessFlags := 2, nameIndex := 7, descriptorIndex := 8, attributes := #[] }, { accessFlags := 9, nameIndex := 198, descriptorIndex := 335, attributes := #[] }, { accessFlags := 9, nameIndex := 201, descriptorIndex := 335, attributes := #[] }] 49 4 #[] #[{ accessFlags := 25, nameIndex := 354, descriptorIndex := 339, attributes := #[] }, { accessFlags := 25, nameIndex := 358, descriptorIndex := 339, attributes := #[] }, { accessFlags := 25, nameIndex := 361, descriptorIndex := 339, attributes := #[] }, { accessFlags := 26, nameIndex := 364, descriptorIndex := 339, attributes := #[] }, { accessFlags := 26, nameIndex := 365, descriptorIndex := 339, attributes := #[] }, { accessFlags := 26, nameIndex := 172, descriptorIndex := 173, attributes := #[] }, { accessFlags := 26, nameIndex := 176, descriptorIndex := 173, attributes := #[] }, { accessFlags := 8, nameIndex := 344, descriptorIndex := 339, attributes := #[] }, { accessFlags := 8, nameIndex := 338, descriptorIndex := 339, attributes := #[] }, { accessFlags := 4120, nameIndex := 245, descriptorIndex := 246, attributes := #[] }])
  fields := #[{ name := "E", type := .double, accessFlags := 25, slot := 0, constantValue := 0 }, { name := "PI", type := .double, accessFlags := 25, slot := 1, constantValue := 0 }, { name := "TAU", type := .double, accessFlags := 25, slot := 2, constantValue := 0 }, { name := "DEGREES_TO_RADIANS", type := .double, accessFlags := 26, slot := 3, constantValue := 0 }, { name := "RADIANS_TO_DEGREES", type := .double, accessFlags := 26, slot := 4, constantValue := 0 }, { name := "negativeZeroFloatBits", type := .long, accessFlags := 26, slot := 5, constantValue := 0 }, { name := "negativeZeroDoubleBits", type := .long, accessFlags := 26, slot := 6, constantValue := 0 }, { name := "twoToTheDoubleScaleUp", type := .double, accessFlags := 8, slot := 7, constantValue := 0 }, { name := "twoToTheDoubleScaleDown", type := .double, accessFlags := 8, slot := 8, constantValue := 0 }, { name := "$assertionsDisabled", type := .boolean, accessFlags := 4120, slot := 9, constantValue := 0 }]
  methods := #[k2m0, k2m1, k2m2]
  instanceTypes := #[]
  staticTypes := #[.double, .double, .double, .double, .double, .long, .long, .double, .double, .boolean]
  resolved := Array.replicate 460 none
  statics := none }

def pool3 : Array CpInfo := pool [(1, .class_ 2), (0, u "java/io/Serializable"), (0, .class_ 4), (0, u "java/lang/Object")] 2

/-- java/io/Serializable -/
def k3 : Class := { plain "java/io/Serializable" (some 0) with
  accessFlags := 1537
  interfaces := #[]
  cf := some (fileOf pool3 1 #[] #[] 1537 3 #[] #[])
  fields := #[]
  methods := #[]
  instanceTypes := #[]
  staticTypes := #[]
  resolved := Array.replicate 7 none
  statics := none }

def pool4 : Array CpInfo := pool [(1, .class_ 2), (0, u "java/lang/Comparable"), (0, .class_ 4), (0, u "java/lang/Object")] 7

/-- java/lang/Comparable -/
def k4 : Class := { plain "java/lang/Comparable" (some 0) with
  accessFlags := 1537
  interfaces := #[]
  cf := some (fileOf pool4 1 #[] #[] 1537 3 #[] #[])
  fields := #[]
  methods := #[]
  instanceTypes := #[]
  staticTypes := #[]
  resolved := Array.replicate 12 none
  statics := none }

def pool5 : Array CpInfo := pool [(2, .class_ 4), (1, u "java/lang/CharSequence"), (42, .class_ 48), (0, u "java/lang/CharSequence$1CodePointIterator"), (10, .class_ 60), (0, u "java/lang/CharSequence$1CharIterator"), (5, .class_ 67), (0, u "java/lang/Object")] 63

/-- java/lang/CharSequence -/
def k5 : Class := { plain "java/lang/CharSequence" (some 0) with
  accessFlags := 1537
  interfaces := #[]
  cf := some (fileOf pool5 2 #[.nestMembers #[47, 59]] #[] 1537 66 #[] #[])
  fields := #[]
  methods := #[]
  instanceTypes := #[]
  staticTypes := #[]
  resolved := Array.replicate 131 none
  statics := none }

def pool6 : Array CpInfo := pool [(1, .class_ 2), (0, u "java/lang/constant/Constable"), (0, .class_ 4), (0, u "java/lang/Object")] 6

/-- java/lang/constant/Constable -/
def k6 : Class := { plain "java/lang/constant/Constable" (some 0) with
  accessFlags := 1537
  interfaces := #[]
  cf := some (fileOf pool6 1 #[] #[] 1537 3 #[] #[])
  fields := #[]
  methods := #[]
  instanceTypes := #[]
  staticTypes := #[]
  resolved := Array.replicate 11 none
  statics := none }

def pool7 : Array CpInfo := pool [(1, .class_ 2), (0, u "java/lang/constant/ConstantDesc"), (0, .class_ 4), (0, u "java/lang/Object")] 32

/-- java/lang/constant/ConstantDesc -/
def k7 : Class := { plain "java/lang/constant/ConstantDesc" (some 0) with
  accessFlags := 1537
  interfaces := #[]
  cf := some (fileOf pool7 1 #[] #[] 1537 3 #[] #[])
  fields := #[]
  methods := #[]
  instanceTypes := #[]
  staticTypes := #[]
  resolved := Array.replicate 37 none
  statics := none }

def pool8 : Array CpInfo := pool [(1, .methodref 2 3), (0, .class_ 4), (0, .nameAndType 5 6), (0, u "java/lang/Object"), (0, u "<init>"), (0, u "()V"), (2, .fieldref 10 11), (0, .class_ 12), (0, .nameAndType 13 14), (0, u "java/lang/String"), (0, u "value"), (0, u "[B"), (0, .fieldref 10 16), (0, .nameAndType 17 18), (0, u "coder"), (0, u "B"), (2, u "hash"), (0, u "I"), (2, u "hashIsZero"), (0, u "Z"), (0, .methodref 10 28), (0, .nameAndType 5 29), (0, u "([CIILjava/lang/Void;)V"), (8, .fieldref 10 39), (0, .nameAndType 40 26), (0, u "COMPACT_STRINGS"), (1, .class_ 44), (1, u "java/lang/StringUTF16"), (0, u "compress"), (1, .methodref 42 48), (0, .nameAndType 49 50), (0, u "coderFromArrayLen"), (0, u "([BI)B"), (56, .class_ 109), (1, u "java/lang/StringLatin1"), (32, u "()Z"), (34, .methodref 42 178), (0, .nameAndType 45 179), (0, u "([CII)[B"), (31, u "([BB)V"), (122, u "()I"), (0, .methodref 10 336), (0, .nameAndType 17 337), (0, u "()B"), (25, u "([BI)C"), (27, u "(II)V"), (35, u "(I)C"), (36, u "()Ljava/lang/String;"), (27, .methodref 10 493), (0, .nameAndType 494 142), (0, u "isLatin1"), (0, .methodref 107 496), (0, .nameAndType 497 363), (0, u "charAt"), (3, u "checkIndex"), (3, .methodref 10 506), (0, .nameAndType 507 334), (0, u "length"), (5, u "checkFromToIndex"), (7, .methodref 10 522), (0, .nameAndType 523 524), (0, u "checkBoundsBeginEnd"), (0, u "(III)V"), (50, .class_ 576), (0, u "java/lang/CharSequence"), (22, u "CASE_INSENSITIVE_ORDER"), (0, u "Ljava/util/Comparator;"), (32, .methodref 10 634), (0, .nameAndType 635 636), (0, u "indexOf"), (0, u "(II)I"), (0, .methodref 107 638), (0, .nameAndType 635 639), (0, u "([BIII)I"), (43, u "substring"), (0, u "(II)Ljava/lang/String;"), (0, .methodref 107 686), (0, .nameAndType 687 688), (0, u "newString"), (0, u "([BII)Ljava/lang/String;"), (76, u "(I)I"), (73, .methodref 107 840), (0, .nameAndType 841 842), (0, u "toLowerCase"), (0, u "(Ljava/lang/String;[BLjava/util/Locale;)Ljava/lang/String;"), (9, u "(Ljava/util/Locale;)Ljava/lang/String;"), (6, .methodref 107 860), (0, .nameAndType 861 862), (0, u "trim"), (0, u "([B)Ljava/lang/String;"), (147, u "([C)V"), (42, .fieldref 1054 1055), (0, .class_ 1056), (0, .nameAndType 1057 1058), (0, u "jdk/internal/util/Preconditions"), (0, u "SIOOBE_FORMATTER"), (0, u "Ljava/util/function/BiFunction;"), (0, .methodref 1054 1060), (0, .nameAndType 501 1061), (0, u "(IILjava/util/function/BiFunction;)I"), (0, .methodref 1054 1063), (0, .nameAndType 513 1064), (0, u "(IIILjava/util/function/BiFunction;)I"), (36, u "serialPersistentFields"), (0, u "[Ljava/io/ObjectStreamField;"), (0, .class_ 1104), (0, u "java/lang/String$CaseInsensitiveComparator"), (1, .class_ 1107), (0, u "java/io/Serializable"), (0, .class_ 1109), (0, u "java/lang/Comparable"), (0, .class_ 1111), (0, u "java/lang/constant/Constable"), (0, .class_ 1113), (0, u "java/lang/constant/ConstantDesc"), (2, u "serialVersionUID"), (0, u "J"), (3, u "REPL"), (0, u "C"), (2, u "LATIN1"), (1, u "UTF16")] 323

def k8m0 : Method := { name := "<init>", desc := "()V", sig := { parameters := [], returnType := none }, accessFlags := 1, code := none }
def k8c1 : Code := { maxStack := 5, maxLocals := 2, code := jdk_42_method_3_code, exceptionTable := #[], attributes := #[] }
def k8m1 : Method := { name := "<init>", desc := "([C)V", sig := { parameters := [(.array .char)], returnType := none }, accessFlags := 1, code := some k8c1 }
def k8c2 : Code := { maxStack := 2, maxLocals := 1, code := jdk_42_method_54_code, exceptionTable := #[], attributes := #[] }
def k8m2 : Method := { name := "length", desc := "()I", sig := { parameters := [], returnType := some .int }, accessFlags := 1, code := some k8c2 }
def k8c3 : Code := { maxStack := 2, maxLocals := 2, code := jdk_42_method_56_code, exceptionTable := #[], attributes := #[] }
def k8m3 : Method := { name := "charAt", desc := "(I)C", sig := { parameters := [.int], returnType := some .char }, accessFlags := 1, code := some k8c3 }
def k8c4 : Code := { maxStack := 3, maxLocals := 2, code := jdk_42_method_79_code, exceptionTable := #[], attributes := #[] }
def k8m4 : Method := { name := "indexOf", desc := "(I)I", sig := { parameters := [.int], returnType := some .int }, accessFlags := 1, code := some k8c4 }
def k8c5 : Code := { maxStack := 4, maxLocals := 3, code := jdk_42_method_80_code, exceptionTable := #[], attributes := #[] }
def k8m5 : Method := { name := "indexOf", desc := "(II)I", sig := { parameters := [.int, .int], returnType := some .int }, accessFlags := 1, code := some k8c5 }
def k8c6 : Code := { maxStack := 3, maxLocals := 5, code := jdk_42_method_92_code, exceptionTable := #[], attributes := #[] }
def k8m6 : Method := { name := "substring", desc := "(II)Ljava/lang/String;", sig := { parameters := [.int, .int], returnType := some (.object "java/lang/String") }, accessFlags := 1, code := some k8c6 }
def k8c7 : Code := { maxStack := 3, maxLocals := 2, code := jdk_42_method_109_code, exceptionTable := #[], attributes := #[] }
def k8m7 : Method := { name := "toLowerCase", desc := "(Ljava/util/Locale;)Ljava/lang/String;", sig := { parameters := [(.object "java/util/Locale")], returnType := some (.object "java/lang/String") }, accessFlags := 1, code := some k8c7 }
def k8c8 : Code := { maxStack := 1, maxLocals := 2, code := jdk_42_method_113_code, exceptionTable := #[], attributes := #[] }
def k8m8 : Method := { name := "trim", desc := "()Ljava/lang/String;", sig := { parameters := [], returnType := some (.object "java/lang/String") }, accessFlags := 1, code := some k8c8 }
def k8c9 : Code := { maxStack := 4, maxLocals := 6, code := jdk_42_method_149_code, exceptionTable := #[], attributes := #[] }
def k8m9 : Method := { name := "<init>", desc := "([CIILjava/lang/Void;)V", sig := { parameters := [(.array .char), .int, .int, (.object "java/lang/Void")], returnType := none }, accessFlags := 2, code := some k8c9 }
def k8c10 : Code := { maxStack := 2, maxLocals := 3, code := jdk_42_method_151_code, exceptionTable := #[], attributes := #[] }
def k8m10 : Method := { name := "<init>", desc := "([BB)V", sig := { parameters := [(.array .byte), .byte], returnType := none }, accessFlags := 0, code := some k8c10 }
def k8c11 : Code := { maxStack := 1, maxLocals := 1, code := jdk_42_method_152_code, exceptionTable := #[], attributes := #[] }
def k8m11 : Method := { name := "coder", desc := "()B", sig := { parameters := [], returnType := some .byte }, accessFlags := 0, code := some k8c11 }
def k8c12 : Code := { maxStack := 1, maxLocals := 1, code := jdk_42_method_154_code, exceptionTable := #[], attributes := #[] }
def k8m12 : Method := { name := "isLatin1", desc := "()Z", sig := { parameters := [], returnType := some .boolean }, accessFlags := 0, code := some k8c12 }
def k8c13 : Code := { maxStack := 3, maxLocals := 2, code := jdk_42_method_155_code, exceptionTable := #[], attributes := #[] }
def k8m13 : Method := { name := "checkIndex", desc := "(II)V", sig := { parameters := [.int, .int], returnType := none }, accessFlags := 8, code := some k8c13 }
def k8c14 : Code := { maxStack := 4, maxLocals := 3, code := jdk_42_method_158_code, exceptionTable := #[], attributes := #[] }
def k8m14 : Method := { name := "checkBoundsBeginEnd", desc := "(III)V", sig := { parameters := [.int, .int, .int], returnType := none }, accessFlags := 8, code := some k8c14 }
/-- java/lang/String -/
def k8 : Class := { plain "java/lang/String" (some 0) with
  accessFlags := 49
  interfaces := #[3, 4, 5, 6, 7]
  cf := some (fileOf pool8 10 #[.nestMembers #[1103]] #[{ accessFlags := 1, nameIndex := 5, descriptorIndex := 6, attributes := #[] }, { accessFlags := 1, nameIndex := 5, descriptorIndex := 1010, attributes := #[] }, { accessFlags := 1, nameIndex := 507, descriptorIndex := 334, attributes := #[] }, { accessFlags := 1, nameIndex := 497, descriptorIndex := 427, attributes := #[] }, { accessFlags := 1, nameIndex := 635, descriptorIndex := 765, attributes := #[] }, { accessFlags := 1, nameIndex := 635, descriptorIndex := 636, attributes := #[] }, { accessFlags := 1, nameIndex := 683, descriptorIndex := 684, attributes := #[] }, { accessFlags := 1, nameIndex := 841, descriptorIndex := 852, attributes := #[] }, { accessFlags := 1, nameIndex := 861, descriptorIndex := 464, attributes := #[] }, { accessFlags := 2, nameIndex := 5, descriptorIndex := 29, attributes := #[] }, { accessFlags := 0, nameIndex := 5, descriptorIndex := 211, attributes := #[] }, { accessFlags := 0, nameIndex := 17, descriptorIndex := 337, attributes := #[] }, { accessFlags := 0, nameIndex := 494, descriptorIndex := 142, attributes := #[] }, { accessFlags := 8, nameIndex := 501, descriptorIndex := 391, attributes := #[] }, { accessFlags := 8, nameIndex := 523, descriptorIndex := 524, attributes := #[] }] 49 2 #[1106, 1108, 575, 1110, 1112] #[{ accessFlags := 18, nameIndex := 13, descriptorIndex := 14, attributes := #[] }, { accessFlags := 18, nameIndex := 17, descriptorIndex := 18, attributes := #[] }, { accessFlags := 2, nameIndex := 21, descriptorIndex := 22, attributes := #[] }, { accessFlags := 2, nameIndex := 25, descriptorIndex := 26, attributes := #[] }, { accessFlags := 26, nameIndex := 1116, descriptorIndex := 1117, attributes := #[] }, { accessFlags := 24, nameIndex := 40, descriptorIndex := 26, attributes := #[] }, { accessFlags := 26, nameIndex := 1101, descriptorIndex := 1102, attributes := #[] }, { accessFlags := 26, nameIndex := 1121, descriptorIndex := 1122, attributes := #[] }, { accessFlags := 25, nameIndex := 599, descriptorIndex := 600, attributes := #[] }, { accessFlags := 24, nameIndex := 1125, descriptorIndex := 18, attributes := #[] }, { accessFlags := 24, nameIndex := 1127, descriptorIndex := 18, attributes := #[] }])
  fields := #[{ name := "value", type := (.array .byte), accessFlags := 18, slot := 0, constantValue := 0 }, { name := "coder", type := .byte, accessFlags := 18, slot := 1, constantValue := 0 }, { name := "hash", type := .int, accessFlags := 2, slot := 2, constantValue := 0 }, { name := "hashIsZero", type := .boolean, accessFlags := 2, slot := 3, constantValue := 0 }, { name := "serialVersionUID", type := .long, accessFlags := 26, slot := 0, constantValue := 0 }, { name := "COMPACT_STRINGS", type := .boolean, accessFlags := 24, slot := 1, constantValue := 0 }, { name := "serialPersistentFields", type := (.array (.object "java/io/ObjectStreamField")), accessFlags := 26, slot := 2, constantValue := 0 }, { name := "REPL", type := .char, accessFlags := 26, slot := 3, constantValue := 0 }, { name := "CASE_INSENSITIVE_ORDER", type := (.object "java/util/Comparator"), accessFlags := 25, slot := 4, constantValue := 0 }, { name := "LATIN1", type := .byte, accessFlags := 24, slot := 5, constantValue := 0 }, { name := "UTF16", type := .byte, accessFlags := 24, slot := 6, constantValue := 0 }]
  methods := #[k8m0, k8m1, k8m2, k8m3, k8m4, k8m5, k8m6, k8m7, k8m8, k8m9, k8m10, k8m11, k8m12, k8m13, k8m14]
  instanceTypes := #[(.array .byte), .byte, .int, .boolean]
  staticTypes := #[.long, .boolean, (.array (.object "java/io/ObjectStreamField")), .char, (.object "java/util/Comparator"), .byte, .byte]
  resolved := Array.replicate 1451 none
  statics := some 0 }

def pool9 : Array CpInfo := pool [(6, .class_ 8), (1, u "java/lang/Object"), (0, u "<init>"), (0, u "()V"), (1, .class_ 14), (1, u "java/lang/StringUTF16"), (31, u "$assertionsDisabled"), (0, u "Z"), (13, u "HI_BYTE_SHIFT"), (0, u "I"), (2, u "LO_BYTE_SHIFT"), (49, .methodref 12 116), (0, .nameAndType 117 118), (0, u "compress"), (0, u "([CI[BII)I"), (3, u "([CII)[B"), (138, u "coderFromArrayLen"), (0, u "([BI)B"), (106, .class_ 371), (1, u "java/lang/StringUTF16$LinesSpliterator"), (58, u "MAX_LENGTH"), (196, .class_ 628), (0, u "java/lang/StringUTF16$CodePointsSpliterator"), (0, .class_ 630), (0, u "java/lang/StringUTF16$CharsSpliterator")] 4

def k9m0 : Method := { name := "<init>", desc := "()V", sig := { parameters := [], returnType := none }, accessFlags := 0, code := none }
def k9c1 : Code := { maxStack := 2, maxLocals := 2, code := jdk_52_method_15_code, exceptionTable := #[], attributes := #[] }
def k9m1 : Method := { name := "coderFromArrayLen", desc := "([BI)B", sig := { parameters := [(.array .byte), .int], returnType := some .byte }, accessFlags := 8, code := some k9c1 }
def k9c2 : Code := { maxStack := 5, maxLocals := 6, code := jdk_52_method_16_code, exceptionTable := #[], attributes := #[] }
def k9m2 : Method := { name := "compress", desc := "([CII)[B", sig := { parameters := [(.array .char), .int, .int], returnType := some (.array .byte) }, accessFlags := 9, code := some k9c2 }
def k9c3 : Code := { maxStack := 3, maxLocals := 7, code := jdk_52_method_21_code, exceptionTable := #[], attributes := #[] }
def k9m3 : Method := { name := "compress", desc := "([CI[BII)I", sig := { parameters := [(.array .char), .int, (.array .byte), .int, .int], returnType := some .int }, accessFlags := 9, code := some k9c3 }
/-- java/lang/StringUTF16 -/
def k9 : Class := { plain "java/lang/StringUTF16" (some 0) with
  accessFlags := 48
  interfaces := #[]
  cf := some (fileOf pool9 12 #[.nestMembers #[627, 629, 369]] #[{ accessFlags := 0, nameIndex := 9, descriptorIndex := 10, attributes := #[] }, { accessFlags := 8, nameIndex := 261, descriptorIndex := 262, attributes := #[] }, { accessFlags := 9, nameIndex := 117, descriptorIndex := 122, attributes := #[] }, { accessFlags := 9, nameIndex := 117, descriptorIndex := 118, attributes := #[] }] 48 6 #[] #[{ accessFlags := 26, nameIndex := 61, descriptorIndex := 62, attributes := #[] }, { accessFlags := 26, nameIndex := 65, descriptorIndex := 62, attributes := #[] }, { accessFlags := 24, nameIndex := 430, descriptorIndex := 62, attributes := #[] }, { accessFlags := 4120, nameIndex := 46, descriptorIndex := 47, attributes := #[] }])
  fields := #[{ name := "HI_BYTE_SHIFT", type := .int, accessFlags := 26, slot := 0, constantValue := 0 }, { name := "LO_BYTE_SHIFT", type := .int, accessFlags := 26, slot := 1, constantValue := 0 }, { name := "MAX_LENGTH", type := .int, accessFlags := 24, slot := 2, constantValue := 0 }, { name := "$assertionsDisabled", type := .boolean, accessFlags := 4120, slot := 3, constantValue := 0 }]
  methods := #[k9m0, k9m1, k9m2, k9m3]
  instanceTypes := #[]
  staticTypes := #[.int, .int, .int, .boolean]
  resolved := Array.replicate 635 none
  statics := none }

def pool10 : Array CpInfo := pool [(2, .class_ 4), (1, u "java/lang/Object"), (0, u "<init>"), (0, u "()V"), (0, .methodref 8 9), (0, .class_ 10), (0, .nameAndType 11 12), (0, u "java/lang/String"), (0, u "indexOf"), (0, u "(I)I"), (0, .methodref 8 14), (0, .nameAndType 15 16), (0, u "substring"), (0, u "(II)Ljava/lang/String;"), (0, .methodref 8 18), (0, .nameAndType 19 20), (0, u "trim"), (0, u "()Ljava/lang/String;"), (0, .fieldref 22 23), (0, .class_ 24), (0, .nameAndType 25 26), (0, u "java/util/Locale"), (0, u "ROOT"), (0, u "Ljava/util/Locale;"), (0, .methodref 8 28), (0, .nameAndType 29 30), (0, u "toLowerCase"), (0, u "(Ljava/util/Locale;)Ljava/lang/String;"), (20, .class_ 53), (1, u "com/example/handoff/handoff/internal/MediaTypes"), (19, .class_ 75), (1, u "com/example/handoff/handoff/internal/MediaTypes$Range"), (58, u "QVALUE"), (0, u "Ljava/util/regex/Pattern;"), (17, u "(Ljava/lang/String;)Ljava/lang/String;"), (11, u "FULL"), (0, u "I"), (4, u "essence")] 28

def k10m0 : Method := { name := "<init>", desc := "()V", sig := { parameters := [], returnType := none }, accessFlags := 2, code := none }
def k10c1 : Code := { maxStack := 3, maxLocals := 3, code := prog_15_method_2_code, exceptionTable := #[], attributes := #[] }
def k10m1 : Method := { name := "essence", desc := "(Ljava/lang/String;)Ljava/lang/String;", sig := { parameters := [(.object "java/lang/String")], returnType := some (.object "java/lang/String") }, accessFlags := 9, code := some k10c1 }
/-- com/example/handoff/handoff/internal/MediaTypes -/
def k10 : Class := { plain "com/example/handoff/handoff/internal/MediaTypes" (some 0) with
  accessFlags := 33
  interfaces := #[]
  cf := some (fileOf pool10 51 #[.nestMembers #[73]] #[{ accessFlags := 2, nameIndex := 5, descriptorIndex := 6, attributes := #[] }, { accessFlags := 9, nameIndex := 171, descriptorIndex := 153, attributes := #[] }] 33 2 #[] #[{ accessFlags := 26, nameIndex := 134, descriptorIndex := 135, attributes := #[] }, { accessFlags := 26, nameIndex := 165, descriptorIndex := 166, attributes := #[] }])
  fields := #[{ name := "QVALUE", type := (.object "java/util/regex/Pattern"), accessFlags := 26, slot := 0, constantValue := 0 }, { name := "FULL", type := .int, accessFlags := 26, slot := 1, constantValue := 0 }]
  methods := #[k10m0, k10m1]
  instanceTypes := #[]
  staticTypes := #[(.object "java/util/regex/Pattern"), .int]
  resolved := Array.replicate 200 none
  statics := none }

def pool11 : Array CpInfo := pool [(1, .class_ 2), (0, u "java/lang/String"), (1, .class_ 6), (1, u "java/lang/Object"), (0, u "<init>"), (0, u "()V"), (0, .methodref 1 10), (0, .nameAndType 11 12), (0, u "checkIndex"), (0, u "(II)V"), (1, .class_ 16), (1, u "java/lang/StringLatin1"), (11, .methodref 29 30), (0, .class_ 31), (0, .nameAndType 32 33), (0, u "java/lang/System"), (0, u "arraycopy"), (0, u "(Ljava/lang/Object;ILjava/lang/Object;II)V"), (4, .methodref 39 40), (0, .class_ 41), (0, .nameAndType 42 43), (0, u "java/lang/Math"), (0, u "min"), (0, u "(II)I"), (9, u "([BI)C"), (12, .fieldref 67 68), (0, .class_ 69), (0, .nameAndType 70 71), (0, u "java/lang/CharacterDataLatin1"), (0, u "instance"), (0, u "Ljava/lang/CharacterDataLatin1;"), (3, u "(I)I"), (4, u "toLowerCase"), (7, .methodref 14 89), (0, .nameAndType 90 91), (0, u "canEncode"), (0, u "(I)Z"), (0, .methodref 39 93), (0, .nameAndType 94 43), (0, u "max"), (0, .methodref 14 96), (0, .nameAndType 97 98), (0, u "indexOfChar"), (0, u "([BIII)I"), (2, u "indexOf"), (10, .methodref 1 113), (0, .nameAndType 7 114), (0, u "([BB)V"), (6, u "$assertionsDisabled"), (0, u "Z"), (8, .class_ 133), (1, u "java/util/Arrays"), (17, .string 152), (0, u ""), (7, .methodref 67 161), (0, .nameAndType 80 75), (0, .methodref 163 164), (0, .class_ 165), (0, .nameAndType 166 167), (0, u "java/util/Locale"), (0, u "getLanguage"), (0, u "()Ljava/lang/String;"), (0, .string 169), (0, u "tr"), (0, .string 171), (0, u "az"), (0, .string 173), (0, u "lt"), (21, .nameAndType 196 197), (0, u "newString"), (0, u "([BII)Ljava/lang/String;"), (12, .methodref 14 195), (10, .class_ 223), (1, u "java/lang/StringLatin1$LinesSpliterator"), (8, .methodref 131 233), (0, .nameAndType 234 235), (0, u "copyOfRange"), (0, u "([BII)[B"), (16, u "charAt"), (97, u "(Ljava/lang/String;[BLjava/util/Locale;)Ljava/lang/String;"), (15, u "trim"), (0, u "([B)Ljava/lang/String;"), (22, .class_ 391), (0, u "java/lang/StringLatin1$CharsSpliterator")] 3

def k11m0 : Method := { name := "<init>", desc := "()V", sig := { parameters := [], returnType := none }, accessFlags := 0, code := none }
def k11c1 : Code := { maxStack := 2, maxLocals := 2, code := jdk_43_method_2_code, exceptionTable := #[], attributes := #[] }
def k11m1 : Method := { name := "charAt", desc := "([BI)C", sig := { parameters := [(.array .byte), .int], returnType := some .char }, accessFlags := 9, code := some k11c1 }
def k11c2 : Code := { maxStack := 2, maxLocals := 1, code := jdk_43_method_4_code, exceptionTable := #[], attributes := #[] }
def k11m2 : Method := { name := "canEncode", desc := "(I)Z", sig := { parameters := [.int], returnType := some .boolean }, accessFlags := 9, code := some k11c2 }
def k11c3 : Code := { maxStack := 4, maxLocals := 4, code := jdk_43_method_22_code, exceptionTable := #[], attributes := #[] }
def k11m3 : Method := { name := "indexOf", desc := "([BIII)I", sig := { parameters := [(.array .byte), .int, .int, .int], returnType := some .int }, accessFlags := 9, code := some k11c3 }
def k11c4 : Code := { maxStack := 2, maxLocals := 6, code := jdk_43_method_23_code, exceptionTable := #[], attributes := #[] }
def k11m4 : Method := { name := "indexOfChar", desc := "([BIII)I", sig := { parameters := [(.array .byte), .int, .int, .int], returnType := some .int }, accessFlags := 10, code := some k11c4 }
def k11c5 : Code := { maxStack := 5, maxLocals := 9, code := jdk_43_method_32_code, exceptionTable := #[], attributes := #[] }
def k11m5 : Method := { name := "toLowerCase", desc := "(Ljava/lang/String;[BLjava/util/Locale;)Ljava/lang/String;", sig := { parameters := [(.object "java/lang/String"), (.array .byte), (.object "java/util/Locale")], returnType := some (.object "java/lang/String") }, accessFlags := 9, code := some k11c5 }
def k11c6 : Code := { maxStack := 4, maxLocals := 3, code := jdk_43_method_36_code, exceptionTable := #[], attributes := #[] }
def k11m6 : Method := { name := "trim", desc := "([B)Ljava/lang/String;", sig := { parameters := [(.array .byte)], returnType := some (.object "java/lang/String") }, accessFlags := 9, code := some k11c6 }
def k11c7 : Code := { maxStack := 6, maxLocals := 3, code := jdk_43_method_47_code, exceptionTable := #[], attributes := #[] }
def k11m7 : Method := { name := "newString", desc := "([BII)Ljava/lang/String;", sig := { parameters := [(.array .byte), .int, .int], returnType := some (.object "java/lang/String") }, accessFlags := 9, code := some k11c7 }
/-- java/lang/StringLatin1 -/
def k11 : Class := { plain "java/lang/StringLatin1" (some 0) with
  accessFlags := 48
  interfaces := #[]
  cf := some (fileOf pool11 14 #[.nestMembers #[390, 221]] #[{ accessFlags := 0, nameIndex := 7, descriptorIndex := 8, attributes := #[] }, { accessFlags := 9, nameIndex := 252, descriptorIndex := 53, attributes := #[] }, { accessFlags := 9, nameIndex := 90, descriptorIndex := 91, attributes := #[] }, { accessFlags := 9, nameIndex := 101, descriptorIndex := 98, attributes := #[] }, { accessFlags := 10, nameIndex := 97, descriptorIndex := 98, attributes := #[] }, { accessFlags := 9, nameIndex := 80, descriptorIndex := 350, attributes := #[] }, { accessFlags := 9, nameIndex := 366, descriptorIndex := 367, attributes := #[] }, { accessFlags := 9, nameIndex := 196, descriptorIndex := 197, attributes := #[] }] 48 4 #[] #[{ accessFlags := 4120, nameIndex := 121, descriptorIndex := 122, attributes := #[] }])
  fields := #[{ name := "$assertionsDisabled", type := .boolean, accessFlags := 4120, slot := 0, constantValue := 0 }]
  methods := #[k11m0, k11m1, k11m2, k11m3, k11m4, k11m5, k11m6, k11m7]
  instanceTypes := #[]
  staticTypes := #[.boolean]
  resolved := Array.replicate 395 none
  statics := none }

def pool12 : Array CpInfo := pool [(2, .class_ 4), (1, u "java/lang/Object"), (0, u "<init>"), (0, u "()V"), (17, .class_ 26), (1, u "jdk/internal/util/Preconditions"), (6, u "checkIndex"), (13, u "checkFromToIndex"), (7, .class_ 56), (0, u "jdk/internal/util/Preconditions$4"), (57, .class_ 115), (0, u "jdk/internal/util/Preconditions$1"), (7, u "SIOOBE_FORMATTER"), (0, u "Ljava/util/function/BiFunction;"), (0, .class_ 126), (0, u "jdk/internal/util/Preconditions$2"), (3, u "AIOOBE_FORMATTER"), (0, .class_ 132), (0, u "jdk/internal/util/Preconditions$3"), (3, u "IOOBE_FORMATTER"), (41, u "(IILjava/util/function/BiFunction;)I"), (4, u "(IIILjava/util/function/BiFunction;)I")] 10

def k12m0 : Method := { name := "<init>", desc := "()V", sig := { parameters := [], returnType := none }, accessFlags := 1, code := none }
def k12c1 : Code := { maxStack := 3, maxLocals := 3, code := jdk_41_method_11_code, exceptionTable := #[], attributes := #[] }
def k12m1 : Method := { name := "checkIndex", desc := "(IILjava/util/function/BiFunction;)I", sig := { parameters := [.int, .int, (.object "java/util/function/BiFunction")], returnType := some .int }, accessFlags := 9, code := some k12c1 }
def k12c2 : Code := { maxStack := 4, maxLocals := 4, code := jdk_41_method_12_code, exceptionTable := #[], attributes := #[] }
def k12m2 : Method := { name := "checkFromToIndex", desc := "(IIILjava/util/function/BiFunction;)I", sig := { parameters := [.int, .int, .int, (.object "java/util/function/BiFunction")], returnType := some .int }, accessFlags := 9, code := some k12c2 }
/-- jdk/internal/util/Preconditions -/
def k12 : Class := { plain "jdk/internal/util/Preconditions" (some 0) with
  accessFlags := 33
  interfaces := #[]
  cf := some (fileOf pool12 24 #[.nestMembers #[55, 131, 125, 114]] #[{ accessFlags := 1, nameIndex := 5, descriptorIndex := 6, attributes := #[] }, { accessFlags := 9, nameIndex := 33, descriptorIndex := 178, attributes := #[] }, { accessFlags := 9, nameIndex := 47, descriptorIndex := 183, attributes := #[] }] 33 2 #[] #[{ accessFlags := 25, nameIndex := 123, descriptorIndex := 124, attributes := #[] }, { accessFlags := 25, nameIndex := 130, descriptorIndex := 124, attributes := #[] }, { accessFlags := 25, nameIndex := 136, descriptorIndex := 124, attributes := #[] }])
  fields := #[{ name := "SIOOBE_FORMATTER", type := (.object "java/util/function/BiFunction"), accessFlags := 25, slot := 0, constantValue := 0 }, { name := "AIOOBE_FORMATTER", type := (.object "java/util/function/BiFunction"), accessFlags := 25, slot := 1, constantValue := 0 }, { name := "IOOBE_FORMATTER", type := (.object "java/util/function/BiFunction"), accessFlags := 25, slot := 2, constantValue := 0 }]
  methods := #[k12m0, k12m1, k12m2]
  instanceTypes := #[]
  staticTypes := #[(.object "java/util/function/BiFunction"), (.object "java/util/function/BiFunction"), (.object "java/util/function/BiFunction")]
  resolved := Array.replicate 194 none
  statics := some 1 }

def pool13 : Array CpInfo := pool [(1, .class_ 2), (0, u "java/lang/Cloneable"), (0, .class_ 4), (0, u "java/lang/Object")] 2

/-- java/lang/Cloneable -/
def k13 : Class := { plain "java/lang/Cloneable" (some 0) with
  accessFlags := 1537
  interfaces := #[]
  cf := some (fileOf pool13 1 #[] #[] 1537 3 #[] #[])
  fields := #[]
  methods := #[]
  instanceTypes := #[]
  staticTypes := #[]
  resolved := Array.replicate 7 none
  statics := none }

def pool14 : Array CpInfo := pool [(2, .class_ 4), (1, u "sun/util/locale/BaseLocale"), (2, .class_ 8), (0, u "java/util/Locale"), (6, u "CONSTANT_LOCALES"), (0, u "Ljava/util/Map;"), (7, .class_ 26), (1, u "java/lang/Object"), (1, .fieldref 7 29), (0, .nameAndType 30 31), (0, u "baseLocale"), (0, u "Lsun/util/locale/BaseLocale;"), (2, u "localeExtensions"), (0, u "Lsun/util/locale/LocaleExtensions;"), (31, .class_ 69), (1, u "java/util/Locale$Cache"), (3, .class_ 74), (0, u "java/util/Locale$LocaleKey"), (3, u "defaultLocale"), (0, u "Ljava/util/Locale;"), (6, .class_ 88), (1, u "java/util/Locale$Category"), (4, u "defaultDisplayLocale"), (6, u "$assertionsDisabled"), (0, u "Z"), (12, u "defaultFormatLocale"), (12, u "Ljava/lang/String;"), (131, u "isoCountries"), (0, u "[Ljava/lang/String;"), (15, .class_ 278), (1, u "java/util/Locale$IsoCountryCode"), (4, u "isoLanguages"), (9, .methodref 2 294), (0, .nameAndType 295 296), (0, u "getLanguage"), (0, u "()Ljava/lang/String;"), (78, u "languageTag"), (114, .class_ 492), (1, u "java/util/Locale$LocaleNameGetter"), (125, u "hashCodeValue"), (0, u "I"), (29, u "ROOT"), (129, .class_ 781), (1, u "java/util/Locale$FilteringMode"), (39, u "ENGLISH"), (2, u "FRENCH"), (2, u "GERMAN"), (2, u "ITALIAN"), (2, u "JAPANESE"), (2, u "KOREAN"), (2, u "CHINESE"), (2, u "SIMPLIFIED_CHINESE"), (2, u "TRADITIONAL_CHINESE"), (2, u "FRANCE"), (2, u "GERMANY"), (2, u "ITALY"), (2, u "JAPAN"), (2, u "KOREA"), (2, u "UK"), (2, u "US"), (2, u "CANADA"), (2, u "CANADA_FRENCH"), (2, u "CHINA"), (2, u "PRC"), (2, u "TAIWAN"), (13, u "serialPersistentFields"), (0, u "[Ljava/io/ObjectStreamField;"), (0, .class_ 898), (0, u "java/lang/Cloneable"), (0, .class_ 900), (0, u "java/io/Serializable"), (2, u "PRIVATE_USE_EXTENSION"), (0, u "C"), (2, u "UNICODE_LOCALE_EXTENSION"), (1, u "serialVersionUID"), (0, u "J"), (2, u "DISPLAY_LANGUAGE"), (1, u "DISPLAY_COUNTRY"), (1, u "DISPLAY_VARIANT"), (1, u "DISPLAY_SCRIPT"), (1, u "DISPLAY_UEXT_KEY"), (1, u "DISPLAY_UEXT_TYPE"), (174, .class_ 1099), (0, u "java/util/Locale$LanguageRange"), (0, .class_ 1101), (0, u "java/util/Locale$Builder"), (0, .class_ 1103), (0, u "java/util/Locale$IsoCountryCode$3"), (0, .class_ 1105), (0, u "java/util/Locale$IsoCountryCode$2"), (0, .class_ 1107), (0, u "java/util/Locale$IsoCountryCode$1")] 46

def k14c0 : Code := { maxStack := 1, maxLocals := 1, code := jdk_2628_method_27_code, exceptionTable := #[], attributes := #[] }
def k14m0 : Method := { name := "getLanguage", desc := "()Ljava/lang/String;", sig := { parameters := [], returnType := some (.object "java/lang/String") }, accessFlags := 1, code := some k14c0 }
/-- java/util/Locale -/
def k14 : Class := { plain "java/util/Locale" (some 0) with
  accessFlags := 49
  interfaces := #[13, 3]
  cf := some (fileOf pool14 7 #[.nestMembers #[1098, 779, 1100, 86, 490, 73, 67, 276, 1102, 1104, 1106]] #[{ accessFlags := 1, nameIndex := 295, descriptorIndex := 296, attributes := #[] }] 49 24 #[897, 899] #[{ accessFlags := 25, nameIndex := 821, descriptorIndex := 79, attributes := #[] }, { accessFlags := 25, nameIndex := 824, descriptorIndex := 79, attributes := #[] }, { accessFlags := 25, nameIndex := 827, descriptorIndex := 79, attributes := #[] }, { accessFlags := 25, nameIndex := 830, descriptorIndex := 79, attributes := #[] }, { accessFlags := 25, nameIndex := 833, descriptorIndex := 79, attributes := #[] }, { accessFlags := 25, nameIndex := 836, descriptorIndex := 79, attributes := #[] }, { accessFlags := 25, nameIndex := 839, descriptorIndex := 79, attributes := #[] }, { accessFlags := 25, nameIndex := 842, descriptorIndex := 79, attributes := #[] }, { accessFlags := 25, nameIndex := 845, descriptorIndex := 79, attributes := #[] }, { accessFlags := 25, nameIndex := 848, descriptorIndex := 79, attributes := #[] }, { accessFlags := 25, nameIndex := 851, descriptorIndex := 79, attributes := #[] }, { accessFlags := 25, nameIndex := 854, descriptorIndex := 79, attributes := #[] }, { accessFlags := 25, nameIndex := 857, descriptorIndex := 79, attributes := #[] }, { accessFlags := 25, nameIndex := 860, descriptorIndex := 79, attributes := #[] }, { accessFlags := 25, nameIndex := 863, descriptorIndex := 79, attributes := #[] }, { accessFlags := 25, nameIndex := 866, descriptorIndex := 79, attributes := #[] }, { accessFlags := 25, nameIndex := 869, descriptorIndex := 79, attributes := #[] }, { accessFlags := 25, nameIndex := 872, descriptorIndex := 79, attributes := #[] }, { accessFlags := 25, nameIndex := 649, descriptorIndex := 79, attributes := #[] }, { accessFlags := 26, nameIndex := 15, descriptorIndex := 16, attributes := #[] }, { accessFlags := 25, nameIndex := 875, descriptorIndex := 79, attributes := #[] }, { accessFlags := 25, nameIndex := 878, descriptorIndex := 79, attributes := #[] }, { accessFlags := 25, nameIndex := 881, descriptorIndex := 79, attributes := #[] }, { accessFlags := 25, nameIndex := 903, descriptorIndex := 904, attributes := #[] }, { accessFlags := 25, nameIndex := 907, descriptorIndex := 904, attributes := #[] }, { accessFlags := 24, nameIndex := 909, descriptorIndex := 910, attributes := #[] }, { accessFlags := 26, nameIndex := 913, descriptorIndex := 619, attributes := #[] }, { accessFlags := 26, nameIndex := 915, descriptorIndex := 619, attributes := #[] }, { accessFlags := 26, nameIndex := 917, descriptorIndex := 619, attributes := #[] }, { accessFlags := 26, nameIndex := 919, descriptorIndex := 619, attributes := #[] }, { accessFlags := 26, nameIndex := 921, descriptorIndex := 619, attributes := #[] }, { accessFlags := 26, nameIndex := 923, descriptorIndex := 619, attributes := #[] }, { accessFlags := 130, nameIndex := 30, descriptorIndex := 31, attributes := #[] }, { accessFlags := 130, nameIndex := 34, descriptorIndex := 35, attributes := #[] }, { accessFlags := 130, nameIndex := 618, descriptorIndex := 619, attributes := #[] }, { accessFlags := 74, nameIndex := 78, descriptorIndex := 79, attributes := #[] }, { accessFlags := 74, nameIndex := 93, descriptorIndex := 79, attributes := #[] }, { accessFlags := 74, nameIndex := 114, descriptorIndex := 79, attributes := #[] }, { accessFlags := 194, nameIndex := 375, descriptorIndex := 127, attributes := #[] }, { accessFlags := 26, nameIndex := 895, descriptorIndex := 896, attributes := #[] }, { accessFlags := 74, nameIndex := 283, descriptorIndex := 260, attributes := #[] }, { accessFlags := 74, nameIndex := 259, descriptorIndex := 260, attributes := #[] }, { accessFlags := 4120, nameIndex := 100, descriptorIndex := 101, attributes := #[] }])
  fields := #[{ name := "ENGLISH", type := (.object "java/util/Locale"), accessFlags := 25, slot := 0, constantValue := 0 }, { name := "FRENCH", type := (.object "java/util/Locale"), accessFlags := 25, slot := 1, constantValue := 0 }, { name := "GERMAN", type := (.object "java/util/Locale"), accessFlags := 25, slot := 2, constantValue := 0 }, { name := "ITALIAN", type := (.object "java/util/Locale"), accessFlags := 25, slot := 3, constantValue := 0 }, { name := "JAPANESE", type := (.object "java/util/Locale"), accessFlags := 25, slot := 4, constantValue := 0 }, { name := "KOREAN", type := (.object "java/util/Locale"), accessFlags := 25, slot := 5, constantValue := 0 }, { name := "CHINESE", type := (.object "java/util/Locale"), accessFlags := 25, slot := 6, constantValue := 0 }, { name := "SIMPLIFIED_CHINESE", type := (.object "java/util/Locale"), accessFlags := 25, slot := 7, constantValue := 0 }, { name := "TRADITIONAL_CHINESE", type := (.object "java/util/Locale"), accessFlags := 25, slot := 8, constantValue := 0 }, { name := "FRANCE", type := (.object "java/util/Locale"), accessFlags := 25, slot := 9, constantValue := 0 }, { name := "GERMANY", type := (.object "java/util/Locale"), accessFlags := 25, slot := 10, constantValue := 0 }, { name := "ITALY", type := (.object "java/util/Locale"), accessFlags := 25, slot := 11, constantValue := 0 }, { name := "JAPAN", type := (.object "java/util/Locale"), accessFlags := 25, slot := 12, constantValue := 0 }, { name := "KOREA", type := (.object "java/util/Locale"), accessFlags := 25, slot := 13, constantValue := 0 }, { name := "UK", type := (.object "java/util/Locale"), accessFlags := 25, slot := 14, constantValue := 0 }, { name := "US", type := (.object "java/util/Locale"), accessFlags := 25, slot := 15, constantValue := 0 }, { name := "CANADA", type := (.object "java/util/Locale"), accessFlags := 25, slot := 16, constantValue := 0 }, { name := "CANADA_FRENCH", type := (.object "java/util/Locale"), accessFlags := 25, slot := 17, constantValue := 0 }, { name := "ROOT", type := (.object "java/util/Locale"), accessFlags := 25, slot := 18, constantValue := 0 }, { name := "CONSTANT_LOCALES", type := (.object "java/util/Map"), accessFlags := 26, slot := 19, constantValue := 0 }, { name := "CHINA", type := (.object "java/util/Locale"), accessFlags := 25, slot := 20, constantValue := 0 }, { name := "PRC", type := (.object "java/util/Locale"), accessFlags := 25, slot := 21, constantValue := 0 }, { name := "TAIWAN", type := (.object "java/util/Locale"), accessFlags := 25, slot := 22, constantValue := 0 }, { name := "PRIVATE_USE_EXTENSION", type := .char, accessFlags := 25, slot := 23, constantValue := 0 }, { name := "UNICODE_LOCALE_EXTENSION", type := .char, accessFlags := 25, slot := 24, constantValue := 0 }, { name := "serialVersionUID", type := .long, accessFlags := 24, slot := 25, constantValue := 0 }, { name := "DISPLAY_LANGUAGE", type := .int, accessFlags := 26, slot := 26, constantValue := 0 }, { name := "DISPLAY_COUNTRY", type := .int, accessFlags := 26, slot := 27, constantValue := 0 }, { name := "DISPLAY_VARIANT", type := .int, accessFlags := 26, slot := 28, constantValue := 0 }, { name := "DISPLAY_SCRIPT", type := .int, accessFlags := 26, slot := 29, constantValue := 0 }, { name := "DISPLAY_UEXT_KEY", type := .int, accessFlags := 26, slot := 30, constantValue := 0 }, { name := "DISPLAY_UEXT_TYPE", type := .int, accessFlags := 26, slot := 31, constantValue := 0 }, { name := "baseLocale", type := (.object "sun/util/locale/BaseLocale"), accessFlags := 130, slot := 0, constantValue := 0 }, { name := "localeExtensions", type := (.object "sun/util/locale/LocaleExtensions"), accessFlags := 130, slot := 1, constantValue := 0 }, { name := "hashCodeValue", type := .int, accessFlags := 130, slot := 2, constantValue := 0 }, { name := "defaultLocale", type := (.object "java/util/Locale"), accessFlags := 74, slot := 32, constantValue := 0 }, { name := "defaultDisplayLocale", type := (.object "java/util/Locale"), accessFlags := 74, slot := 33, constantValue := 0 }, { name := "defaultFormatLocale", type := (.object "java/util/Locale"), accessFlags := 74, slot := 34, constantValue := 0 }, { name := "languageTag", type := (.object "java/lang/String"), accessFlags := 194, slot := 3, constantValue := 0 }, { name := "serialPersistentFields", type := (.array (.object "java/io/ObjectStreamField")), accessFlags := 26, slot := 35, constantValue := 0 }, { name := "isoLanguages", type := (.array (.object "java/lang/String")), accessFlags := 74, slot := 36, constantValue := 0 }, { name := "isoCountries", type := (.array (.object "java/lang/String")), accessFlags := 74, slot := 37, constantValue := 0 }, { name := "$assertionsDisabled", type := .boolean, accessFlags := 4120, slot := 38, constantValue := 0 }]
  methods := #[k14m0]
  instanceTypes := #[(.object "sun/util/locale/BaseLocale"), (.object "sun/util/locale/LocaleExtensions"), .int, (.object "java/lang/String")]
  staticTypes := #[(.object "java/util/Locale"), (.object "java/util/Locale"), (.object "java/util/Locale"), (.object "java/util/Locale"), (.object "java/util/Locale"), (.object "java/util/Locale"), (.object "java/util/Locale"), (.object "java/util/Locale"), (.object "java/util/Locale"), (.object "java/util/Locale"), (.object "java/util/Locale"), (.object "java/util/Locale"), (.object "java/util/Locale"), (.object "java/util/Locale"), (.object "java/util/Locale"), (.object "java/util/Locale"), (.object "java/util/Locale"), (.object "java/util/Locale"), (.object "java/util/Locale"), (.object "java/util/Map"), (.object "java/util/Locale"), (.object "java/util/Locale"), (.object "java/util/Locale"), .char, .char, .long, .int, .int, .int, .int, .int, .int, (.object "java/util/Locale"), (.object "java/util/Locale"), (.object "java/util/Locale"), (.array (.object "java/io/ObjectStreamField")), (.array (.object "java/lang/String")), (.array (.object "java/lang/String")), .boolean]
  resolved := Array.replicate 1154 none
  statics := some 2 }

def pool15 : Array CpInfo := pool [(2, .class_ 4), (1, u "java/lang/Object"), (0, u "<init>"), (0, u "()V"), (7, .class_ 16), (1, u "java/util/Arrays"), (57, .class_ 76), (1, u "java/util/Arrays$NaturalOrder"), (36, .class_ 115), (1, u "java/util/Arrays$LegacyMergeSort"), (1, u "Z"), (21, u "copyOfRange"), (10, .methodref 151 152), (0, .class_ 153), (0, .nameAndType 154 155), (0, u "java/lang/System"), (0, u "arraycopy"), (0, u "(Ljava/lang/Object;ILjava/lang/Object;II)V"), (148, .methodref 305 306), (0, .class_ 307), (0, .nameAndType 308 309), (0, u "java/lang/Math"), (0, u "min"), (0, u "(II)I"), (29, .methodref 14 340), (0, .nameAndType 341 342), (0, u "copyOfRangeByte"), (0, u "([BII)[B"), (0, .methodref 14 344), (0, .nameAndType 345 346), (0, u "checkLength"), (0, u "(II)V"), (28, .class_ 376), (0, u "java/util/Arrays$ArrayList"), (68, u "$assertionsDisabled"), (269, u "MIN_ARRAY_SORT_GRAN"), (0, u "I"), (2, u "INSERTIONSORT_THRESHOLD"), (255, .class_ 976), (0, u "java/util/Arrays$ArrayItr")] 52

def k15m0 : Method := { name := "<init>", desc := "()V", sig := { parameters := [], returnType := none }, accessFlags := 2, code := none }
def k15c1 : Code := { maxStack := 4, maxLocals := 2, code := jdk_65_method_131_code, exceptionTable := #[], attributes := #[] }
def k15m1 : Method := { name := "checkLength", desc := "(II)V", sig := { parameters := [.int, .int], returnType := none }, accessFlags := 10, code := some k15c1 }
def k15c2 : Code := { maxStack := 3, maxLocals := 3, code := jdk_65_method_132_code, exceptionTable := #[], attributes := #[] }
def k15m2 : Method := { name := "copyOfRange", desc := "([BII)[B", sig := { parameters := [(.array .byte), .int, .int], returnType := some (.array .byte) }, accessFlags := 9, code := some k15c2 }
def k15c3 : Code := { maxStack := 6, maxLocals := 5, code := jdk_65_method_133_code, exceptionTable := #[], attributes := #[] }
def k15m3 : Method := { name := "copyOfRangeByte", desc := "([BII)[B", sig := { parameters := [(.array .byte), .int, .int], returnType := some (.array .byte) }, accessFlags := 10, code := some k15c3 }
/-- java/util/Arrays -/
def k15 : Class := { plain "java/util/Arrays" (some 0) with
  accessFlags := 49
  interfaces := #[]
  cf := some (fileOf pool15 14 #[.nestMembers #[975, 375, 113, 74]] #[{ accessFlags := 2, nameIndex := 5, descriptorIndex := 6, attributes := #[] }, { accessFlags := 10, nameIndex := 345, descriptorIndex := 346, attributes := #[] }, { accessFlags := 9, nameIndex := 139, descriptorIndex := 342, attributes := #[] }, { accessFlags := 10, nameIndex := 341, descriptorIndex := 342, attributes := #[] }] 49 2 #[] #[{ accessFlags := 26, nameIndex := 715, descriptorIndex := 716, attributes := #[] }, { accessFlags := 26, nameIndex := 719, descriptorIndex := 716, attributes := #[] }, { accessFlags := 4120, nameIndex := 445, descriptorIndex := 117, attributes := #[] }])
  fields := #[{ name := "MIN_ARRAY_SORT_GRAN", type := .int, accessFlags := 26, slot := 0, constantValue := 0 }, { name := "INSERTIONSORT_THRESHOLD", type := .int, accessFlags := 26, slot := 1, constantValue := 0 }, { name := "$assertionsDisabled", type := .boolean, accessFlags := 4120, slot := 2, constantValue := 0 }]
  methods := #[k15m0, k15m1, k15m2, k15m3]
  instanceTypes := #[]
  staticTypes := #[.int, .int, .boolean]
  resolved := Array.replicate 1029 none
  statics := none }

def pool16 : Array CpInfo := pool [(2, .class_ 4), (1, u "java/lang/Object"), (0, u "<init>"), (0, u "()V"), (1, .class_ 10), (1, u "java/lang/System"), (0, u "allowSecurityManager"), (0, u "I"), (16, u "cons"), (0, u "Ljava/io/Console;"), (77, .class_ 110), (1, u "java/lang/System$CallersHolder"), (43, u "initialErrStream"), (0, u "Ljava/io/PrintStream;"), (19, u "security"), (0, u "Ljava/lang/SecurityManager;"), (31, .class_ 209), (0, u "java/lang/System$1"), (7, u "props"), (0, u "Ljava/util/Properties;"), (2, u "lineSeparator"), (0, u "Ljava/lang/String;"), (96, .class_ 321), (1, u "java/lang/System$LoggerFinder"), (5, .class_ 328), (0, u "java/lang/System$Logger"), (67, u "err"), (2, u "out"), (91, u "notSupportedJnuEncoding"), (15, u "in"), (17, u "initialIn"), (0, u "Ljava/io/InputStream;"), (35, u "bootLayer"), (0, u "Ljava/lang/ModuleLayer;"), (99, .class_ 664), (0, u "java/lang/System$2"), (9, u "NEVER"), (2, u "MAYBE"), (49, u "arraycopy"), (0, u "(Ljava/lang/Object;ILjava/lang/Object;II)V"), (72, .class_ 802), (0, u "java/lang/System$Logger$Level")] 31

def k16m0 : Method := { name := "<init>", desc := "()V", sig := { parameters := [], returnType := none }, accessFlags := 2, code := none }
def k16m1 : Method := { name := "arraycopy", desc := "(Ljava/lang/Object;ILjava/lang/Object;II)V", sig := { parameters := [(.object "java/lang/Object"), .int, (.object "java/lang/Object"), .int, .int], returnType := none }, accessFlags := 265, code := none }
/-- java/lang/System -/
def k16 : Class := { plain "java/lang/System" (some 0) with
  accessFlags := 49
  interfaces := #[]
  cf := some (fileOf pool16 8 #[.nestMembers #[319, 327, 801, 108, 663, 208]] #[{ accessFlags := 2, nameIndex := 5, descriptorIndex := 6, attributes := #[] }, { accessFlags := 265, nameIndex := 727, descriptorIndex := 728, attributes := #[] }] 49 2 #[] #[{ accessFlags := 25, nameIndex := 507, descriptorIndex := 526, attributes := #[] }, { accessFlags := 25, nameIndex := 399, descriptorIndex := 155, attributes := #[] }, { accessFlags := 25, nameIndex := 396, descriptorIndex := 155, attributes := #[] }, { accessFlags := 10, nameIndex := 525, descriptorIndex := 526, attributes := #[] }, { accessFlags := 26, nameIndex := 674, descriptorIndex := 12, attributes := #[] }, { accessFlags := 26, nameIndex := 677, descriptorIndex := 12, attributes := #[] }, { accessFlags := 10, nameIndex := 11, descriptorIndex := 12, attributes := #[] }, { accessFlags := 74, nameIndex := 175, descriptorIndex := 176, attributes := #[] }, { accessFlags := 10, nameIndex := 491, descriptorIndex := 222, attributes := #[] }, { accessFlags := 74, nameIndex := 29, descriptorIndex := 30, attributes := #[] }, { accessFlags := 74, nameIndex := 154, descriptorIndex := 155, attributes := #[] }, { accessFlags := 10, nameIndex := 217, descriptorIndex := 218, attributes := #[] }, { accessFlags := 10, nameIndex := 221, descriptorIndex := 222, attributes := #[] }, { accessFlags := 8, nameIndex := 562, descriptorIndex := 563, attributes := #[] }])
  fields := #[{ name := "in", type := (.object "java/io/InputStream"), accessFlags := 25, slot := 0, constantValue := 0 }, { name := "out", type := (.object "java/io/PrintStream"), accessFlags := 25, slot := 1, constantValue := 0 }, { name := "err", type := (.object "java/io/PrintStream"), accessFlags := 25, slot := 2, constantValue := 0 }, { name := "initialIn", type := (.object "java/io/InputStream"), accessFlags := 10, slot := 3, constantValue := 0 }, { name := "NEVER", type := .int, accessFlags := 26, slot := 4, constantValue := 0 }, { name := "MAYBE", type := .int, accessFlags := 26, slot := 5, constantValue := 0 }, { name := "allowSecurityManager", type := .int, accessFlags := 10, slot := 6, constantValue := 0 }, { name := "security", type := (.object "java/lang/SecurityManager"), accessFlags := 74, slot := 7, constantValue := 0 }, { name := "notSupportedJnuEncoding", type := (.object "java/lang/String"), accessFlags := 10, slot := 8, constantValue := 0 }, { name := "cons", type := (.object "java/io/Console"), accessFlags := 74, slot := 9, constantValue := 0 }, { name := "initialErrStream", type := (.object "java/io/PrintStream"), accessFlags := 74, slot := 10, constantValue := 0 }, { name := "props", type := (.object "java/util/Properties"), accessFlags := 10, slot := 11, constantValue := 0 }, { name := "lineSeparator", type := (.object "java/lang/String"), accessFlags := 10, slot := 12, constantValue := 0 }, { name := "bootLayer", type := (.object "java/lang/ModuleLayer"), accessFlags := 8, slot := 13, constantValue := 0 }]
  methods := #[k16m0, k16m1]
  instanceTypes := #[]
  staticTypes := #[(.object "java/io/InputStream"), (.object "java/io/PrintStream"), (.object "java/io/PrintStream"), (.object "java/io/InputStream"), .int, .int, .int, (.object "java/lang/SecurityManager"), (.object "java/lang/String"), (.object "java/io/Console"), (.object "java/io/PrintStream"), (.object "java/util/Properties"), (.object "java/lang/String"), (.object "java/lang/ModuleLayer")]
  resolved := Array.replicate 834 none
  statics := none }

def pool17 : Array CpInfo := pool [(2, .class_ 4), (1, u "java/lang/Object"), (0, u "<init>"), (0, u "()V"), (1, .class_ 10), (1, u "java/lang/CharacterData")] 75

def k17m0 : Method := { name := "<init>", desc := "()V", sig := { parameters := [], returnType := none }, accessFlags := 0, code := none }
/-- java/lang/CharacterData -/
def k17 : Class := { plain "java/lang/CharacterData" (some 0) with
  accessFlags := 1056
  interfaces := #[]
  cf := some (fileOf pool17 8 #[] #[{ accessFlags := 0, nameIndex := 5, descriptorIndex := 6, attributes := #[] }] 1056 2 #[] #[])
  fields := #[]
  methods := #[k17m0]
  instanceTypes := #[]
  staticTypes := #[]
  resolved := Array.replicate 86 none
  statics := none }

def pool18 : Array CpInfo := pool [(2, .class_ 4), (1, u "java/lang/CharacterDataLatin1"), (0, u "A"), (0, u "[I"), (2, u "B"), (0, u "[C"), (3, u "(I)I"), (12, u "DIGITS"), (0, u "[B"), (8, u "sharpsMap"), (1, .class_ 41), (1, u "java/lang/CharacterData"), (0, u "<init>"), (0, u "()V"), (3, u "instance"), (0, u "Ljava/lang/CharacterDataLatin1;"), (63, u "toLowerCase")] 28

def k18c0 : Code := { maxStack := 2, maxLocals := 3, code := jdk_116_method_20_code, exceptionTable := #[], attributes := #[] }
def k18m0 : Method := { name := "toLowerCase", desc := "(I)I", sig := { parameters := [.int], returnType := some .int }, accessFlags := 0, code := some k18c0 }
def k18m1 : Method := { name := "<init>", desc := "()V", sig := { parameters := [], returnType := none }, accessFlags := 2, code := none }
/-- java/lang/CharacterDataLatin1 -/
def k18 : Class := { plain "java/lang/CharacterDataLatin1" (some 17) with
  accessFlags := 32
  interfaces := #[]
  cf := some (fileOf pool18 2 #[] #[{ accessFlags := 0, nameIndex := 112, descriptorIndex := 14, attributes := #[] }, { accessFlags := 2, nameIndex := 42, descriptorIndex := 43, attributes := #[] }] 32 39 #[] #[{ accessFlags := 26, nameIndex := 27, descriptorIndex := 28, attributes := #[] }, { accessFlags := 8, nameIndex := 37, descriptorIndex := 10, attributes := #[] }, { accessFlags := 24, nameIndex := 47, descriptorIndex := 48, attributes := #[] }, { accessFlags := 24, nameIndex := 5, descriptorIndex := 6, attributes := #[] }, { accessFlags := 24, nameIndex := 9, descriptorIndex := 10, attributes := #[] }])
  fields := #[{ name := "DIGITS", type := (.array .byte), accessFlags := 26, slot := 0, constantValue := 0 }, { name := "sharpsMap", type := (.array .char), accessFlags := 8, slot := 1, constantValue := 0 }, { name := "instance", type := (.object "java/lang/CharacterDataLatin1"), accessFlags := 24, slot := 2, constantValue := 0 }, { name := "A", type := (.array .int), accessFlags := 24, slot := 3, constantValue := 0 }, { name := "B", type := (.array .char), accessFlags := 24, slot := 4, constantValue := 0 }]
  methods := #[k18m0, k18m1]
  instanceTypes := #[]
  staticTypes := #[(.array .byte), (.array .char), (.object "java/lang/CharacterDataLatin1"), (.array .int), (.array .char)]
  resolved := Array.replicate 141 none
  statics := some 3 }

def pool19 : Array CpInfo := pool [(2, .class_ 4), (1, u "java/lang/Object"), (13, u "()Ljava/lang/String;"), (0, .fieldref 20 21), (0, .class_ 22), (0, .nameAndType 23 24), (0, u "sun/util/locale/BaseLocale"), (0, u "language"), (0, u "Ljava/lang/String;"), (5, u "script"), (5, u "region"), (2, u "variant"), (11, u "constantBaseLocales"), (0, u "[Lsun/util/locale/BaseLocale;"), (2, u "getLanguage"), (10, .class_ 67), (0, u "sun/util/locale/BaseLocale$Key"), (2, .class_ 72), (1, u "sun/util/locale/BaseLocale$Cache"), (24, u "OLD_ISO_CODES"), (0, u "Z"), (32, u "hash"), (0, u "I"), (41, u "US"), (15, u "ENGLISH"), (0, u "B"), (2, u "FRENCH"), (1, u "GERMAN"), (1, u "ITALIAN"), (1, u "JAPANESE"), (1, u "KOREAN"), (1, u "CHINESE"), (1, u "SIMPLIFIED_CHINESE"), (1, u "TRADITIONAL_CHINESE"), (1, u "FRANCE"), (1, u "GERMANY"), (1, u "ITALY"), (1, u "JAPAN"), (1, u "KOREA"), (1, u "UK"), (2, u "CANADA"), (1, u "CANADA_FRENCH"), (1, u "ROOT"), (1, u "NUM_CONSTANTS"), (1, u "SEP")] 31

def k19c0 : Code := { maxStack := 1, maxLocals := 1, code := jdk_3003_method_5_code, exceptionTable := #[], attributes := #[] }
def k19m0 : Method := { name := "getLanguage", desc := "()Ljava/lang/String;", sig := { parameters := [], returnType := some (.object "java/lang/String") }, accessFlags := 1, code := some k19c0 }
/-- sun/util/locale/BaseLocale -/
def k19 : Class := { plain "sun/util/locale/BaseLocale" (some 0) with
  accessFlags := 49
  interfaces := #[]
  cf := some (fileOf pool19 20 #[.nestMembers #[70, 66]] #[{ accessFlags := 1, nameIndex := 55, descriptorIndex := 18, attributes := #[] }] 49 2 #[] #[{ accessFlags := 9, nameIndex := 51, descriptorIndex := 52, attributes := #[] }, { accessFlags := 25, nameIndex := 190, descriptorIndex := 191, attributes := #[] }, { accessFlags := 25, nameIndex := 194, descriptorIndex := 191, attributes := #[] }, { accessFlags := 25, nameIndex := 196, descriptorIndex := 191, attributes := #[] }, { accessFlags := 25, nameIndex := 198, descriptorIndex := 191, attributes := #[] }, { accessFlags := 25, nameIndex := 200, descriptorIndex := 191, attributes := #[] }, { accessFlags := 25, nameIndex := 202, descriptorIndex := 191, attributes := #[] }, { accessFlags := 25, nameIndex := 204, descriptorIndex := 191, attributes := #[] }, { accessFlags := 25, nameIndex := 206, descriptorIndex := 191, attributes := #[] }, { accessFlags := 25, nameIndex := 208, descriptorIndex := 191, attributes := #[] }, { accessFlags := 25, nameIndex := 210, descriptorIndex := 191, attributes := #[] }, { accessFlags := 25, nameIndex := 212, descriptorIndex := 191, attributes := #[] }, { accessFlags := 25, nameIndex := 214, descriptorIndex := 191, attributes := #[] }, { accessFlags := 25, nameIndex := 216, descriptorIndex := 191, attributes := #[] }, { accessFlags := 25, nameIndex := 218, descriptorIndex := 191, attributes := #[] }, { accessFlags := 25, nameIndex := 220, descriptorIndex := 191, attributes := #[] }, { accessFlags := 25, nameIndex := 174, descriptorIndex := 191, attributes := #[] }, { accessFlags := 25, nameIndex := 223, descriptorIndex := 191, attributes := #[] }, { accessFlags := 25, nameIndex := 225, descriptorIndex := 191, attributes := #[] }, { accessFlags := 25, nameIndex := 227, descriptorIndex := 191, attributes := #[] }, { accessFlags := 25, nameIndex := 229, descriptorIndex := 191, attributes := #[] }, { accessFlags := 25, nameIndex := 231, descriptorIndex := 24, attributes := #[] }, { accessFlags := 18, nameIndex := 23, descriptorIndex := 24, attributes := #[] }, { accessFlags := 18, nameIndex := 30, descriptorIndex := 24, attributes := #[] }, { accessFlags := 18, nameIndex := 36, descriptorIndex := 24, attributes := #[] }, { accessFlags := 18, nameIndex := 39, descriptorIndex := 24, attributes := #[] }, { accessFlags := 2, nameIndex := 131, descriptorIndex := 132, attributes := #[] }, { accessFlags := 26, nameIndex := 97, descriptorIndex := 98, attributes := #[] }])
  fields := #[{ name := "constantBaseLocales", type := (.array (.object "sun/util/locale/BaseLocale")), accessFlags := 9, slot := 0, constantValue := 0 }, { name := "ENGLISH", type := .byte, accessFlags := 25, slot := 1, constantValue := 0 }, { name := "FRENCH", type := .byte, accessFlags := 25, slot := 2, constantValue := 0 }, { name := "GERMAN", type := .byte, accessFlags := 25, slot := 3, constantValue := 0 }, { name := "ITALIAN", type := .byte, accessFlags := 25, slot := 4, constantValue := 0 }, { name := "JAPANESE", type := .byte, accessFlags := 25, slot := 5, constantValue := 0 }, { name := "KOREAN", type := .byte, accessFlags := 25, slot := 6, constantValue := 0 }, { name := "CHINESE", type := .byte, accessFlags := 25, slot := 7, constantValue := 0 }, { name := "SIMPLIFIED_CHINESE", type := .byte, accessFlags := 25, slot := 8, constantValue := 0 }, { name := "TRADITIONAL_CHINESE", type := .byte, accessFlags := 25, slot := 9, constantValue := 0 }, { name := "FRANCE", type := .byte, accessFlags := 25, slot := 10, constantValue := 0 }, { name := "GERMANY", type := .byte, accessFlags := 25, slot := 11, constantValue := 0 }, { name := "ITALY", type := .byte, accessFlags := 25, slot := 12, constantValue := 0 }, { name := "JAPAN", type := .byte, accessFlags := 25, slot := 13, constantValue := 0 }, { name := "KOREA", type := .byte, accessFlags := 25, slot := 14, constantValue := 0 }, { name := "UK", type := .byte, accessFlags := 25, slot := 15, constantValue := 0 }, { name := "US", type := .byte, accessFlags := 25, slot := 16, constantValue := 0 }, { name := "CANADA", type := .byte, accessFlags := 25, slot := 17, constantValue := 0 }, { name := "CANADA_FRENCH", type := .byte, accessFlags := 25, slot := 18, constantValue := 0 }, { name := "ROOT", type := .byte, accessFlags := 25, slot := 19, constantValue := 0 }, { name := "NUM_CONSTANTS", type := .byte, accessFlags := 25, slot := 20, constantValue := 0 }, { name := "SEP", type := (.object "java/lang/String"), accessFlags := 25, slot := 21, constantValue := 0 }, { name := "language", type := (.object "java/lang/String"), accessFlags := 18, slot := 0, constantValue := 0 }, { name := "script", type := (.object "java/lang/String"), accessFlags := 18, slot := 1, constantValue := 0 }, { name := "region", type := (.object "java/lang/String"), accessFlags := 18, slot := 2, constantValue := 0 }, { name := "variant", type := (.object "java/lang/String"), accessFlags := 18, slot := 3, constantValue := 0 }, { name := "hash", type := .int, accessFlags := 2, slot := 4, constantValue := 0 }, { name := "OLD_ISO_CODES", type := .boolean, accessFlags := 26, slot := 22, constantValue := 0 }]
  methods := #[k19m0]
  instanceTypes := #[(.object "java/lang/String"), (.object "java/lang/String"), (.object "java/lang/String"), (.object "java/lang/String"), .int]
  staticTypes := #[(.array (.object "sun/util/locale/BaseLocale")), .byte, .byte, .byte, .byte, .byte, .byte, .byte, .byte, .byte, .byte, .byte, .byte, .byte, .byte, .byte, .byte, .byte, .byte, .byte, .byte, (.object "java/lang/String"), .boolean]
  resolved := Array.replicate 263 none
  statics := none }

def pool20 : Array CpInfo := pool [(9, u "<init>"), (6, .class_ 18), (1, u "java/lang/Object"), (0, u "()V"), (1, .class_ 23), (1, u "jdk/internal/util/ArraysSupport"), (0, u "LOG2_ARRAY_LONG_INDEX_SCALE"), (0, u "I"), (2, u "U"), (0, u "Ljdk/internal/misc/Unsafe;"), (8, u "BIG_ENDIAN"), (0, u "Z"), (8, u "LOG2_BYTE_BIT_SIZE"), (4, u "LOG2_ARRAY_INT_INDEX_SCALE"), (54, u "JLA"), (0, u "Ljdk/internal/access/JavaLangAccess;"), (11, u "LOG2_ARRAY_BOOLEAN_INDEX_SCALE"), (9, u "LOG2_ARRAY_BYTE_INDEX_SCALE"), (5, u "LOG2_ARRAY_CHAR_INDEX_SCALE"), (5, u "LOG2_ARRAY_SHORT_INDEX_SCALE"), (18, u "LOG2_ARRAY_FLOAT_INDEX_SCALE"), (24, u "LOG2_ARRAY_DOUBLE_INDEX_SCALE"), (89, u "T_BOOLEAN"), (2, u "T_CHAR"), (1, u "T_FLOAT"), (1, u "T_DOUBLE"), (1, u "T_BYTE"), (1, u "T_SHORT"), (1, u "T_INT"), (1, u "T_LONG"), (1, u "SOFT_MAX_ARRAY_LENGTH")] 83

def k20m0 : Method := { name := "<init>", desc := "()V", sig := { parameters := [], returnType := none }, accessFlags := 2, code := none }
/-- jdk/internal/util/ArraysSupport -/
def k20 : Class := { plain "jdk/internal/util/ArraysSupport" (some 0) with
  accessFlags := 33
  interfaces := #[]
  cf := some (fileOf pool20 21 #[] #[{ accessFlags := 2, nameIndex := 9, descriptorIndex := 19, attributes := #[] }] 33 16 #[] #[{ accessFlags := 24, nameIndex := 28, descriptorIndex := 29, attributes := #[] }, { accessFlags := 26, nameIndex := 38, descriptorIndex := 39, attributes := #[] }, { accessFlags := 25, nameIndex := 121, descriptorIndex := 25, attributes := #[] }, { accessFlags := 25, nameIndex := 131, descriptorIndex := 25, attributes := #[] }, { accessFlags := 25, nameIndex := 137, descriptorIndex := 25, attributes := #[] }, { accessFlags := 25, nameIndex := 143, descriptorIndex := 25, attributes := #[] }, { accessFlags := 25, nameIndex := 53, descriptorIndex := 25, attributes := #[] }, { accessFlags := 25, nameIndex := 24, descriptorIndex := 25, attributes := #[] }, { accessFlags := 25, nameIndex := 162, descriptorIndex := 25, attributes := #[] }, { accessFlags := 25, nameIndex := 187, descriptorIndex := 25, attributes := #[] }, { accessFlags := 26, nameIndex := 48, descriptorIndex := 25, attributes := #[] }, { accessFlags := 25, nameIndex := 277, descriptorIndex := 25, attributes := #[] }, { accessFlags := 25, nameIndex := 280, descriptorIndex := 25, attributes := #[] }, { accessFlags := 25, nameIndex := 282, descriptorIndex := 25, attributes := #[] }, { accessFlags := 25, nameIndex := 284, descriptorIndex := 25, attributes := #[] }, { accessFlags := 25, nameIndex := 286, descriptorIndex := 25, attributes := #[] }, { accessFlags := 25, nameIndex := 288, descriptorIndex := 25, attributes := #[] }, { accessFlags := 25, nameIndex := 290, descriptorIndex := 25, attributes := #[] }, { accessFlags := 25, nameIndex := 292, descriptorIndex := 25, attributes := #[] }, { accessFlags := 26, nameIndex := 108, descriptorIndex := 109, attributes := #[] }, { accessFlags := 25, nameIndex := 294, descriptorIndex := 25, attributes := #[] }])
  fields := #[{ name := "U", type := (.object "jdk/internal/misc/Unsafe"), accessFlags := 24, slot := 0, constantValue := 0 }, { name := "BIG_ENDIAN", type := .boolean, accessFlags := 26, slot := 1, constantValue := 0 }, { name := "LOG2_ARRAY_BOOLEAN_INDEX_SCALE", type := .int, accessFlags := 25, slot := 2, constantValue := 0 }, { name := "LOG2_ARRAY_BYTE_INDEX_SCALE", type := .int, accessFlags := 25, slot := 3, constantValue := 0 }, { name := "LOG2_ARRAY_CHAR_INDEX_SCALE", type := .int, accessFlags := 25, slot := 4, constantValue := 0 }, { name := "LOG2_ARRAY_SHORT_INDEX_SCALE", type := .int, accessFlags := 25, slot := 5, constantValue := 0 }, { name := "LOG2_ARRAY_INT_INDEX_SCALE", type := .int, accessFlags := 25, slot := 6, constantValue := 0 }, { name := "LOG2_ARRAY_LONG_INDEX_SCALE", type := .int, accessFlags := 25, slot := 7, constantValue := 0 }, { name := "LOG2_ARRAY_FLOAT_INDEX_SCALE", type := .int, accessFlags := 25, slot := 8, constantValue := 0 }, { name := "LOG2_ARRAY_DOUBLE_INDEX_SCALE", type := .int, accessFlags := 25, slot := 9, constantValue := 0 }, { name := "LOG2_BYTE_BIT_SIZE", type := .int, accessFlags := 26, slot := 10, constantValue := 0 }, { name := "T_BOOLEAN", type := .int, accessFlags := 25, slot := 11, constantValue := 0 }, { name := "T_CHAR", type := .int, accessFlags := 25, slot := 12, constantValue := 0 }, { name := "T_FLOAT", type := .int, accessFlags := 25, slot := 13, constantValue := 0 }, { name := "T_DOUBLE", type := .int, accessFlags := 25, slot := 14, constantValue := 0 }, { name := "T_BYTE", type := .int, accessFlags := 25, slot := 15, constantValue := 0 }, { name := "T_SHORT", type := .int, accessFlags := 25, slot := 16, constantValue := 0 }, { name := "T_INT", type := .int, accessFlags := 25, slot := 17, constantValue := 0 }, { name := "T_LONG", type := .int, accessFlags := 25, slot := 18, constantValue := 0 }, { name := "JLA", type := (.object "jdk/internal/access/JavaLangAccess"), accessFlags := 26, slot := 19, constantValue := 0 }, { name := "SOFT_MAX_ARRAY_LENGTH", type := .int, accessFlags := 25, slot := 20, constantValue := 0 }]
  methods := #[k20m0]
  instanceTypes := #[]
  staticTypes := #[(.object "jdk/internal/misc/Unsafe"), .boolean, .int, .int, .int, .int, .int, .int, .int, .int, .int, .int, .int, .int, .int, .int, .int, .int, .int, (.object "jdk/internal/access/JavaLangAccess"), .int]
  resolved := Array.replicate 378 none
  statics := none }

/-- the primitive byte -/
def k21 : Class := { plain "byte" none with kind := .primitive 'B', accessFlags := 0x411 }
/-- [B -/
def k22 : Class := { plain "[B" (some 0) with kind := .array 21 .byte, interfaces := #[13, 3], accessFlags := 1041 }

/-- the primitive char -/
def k23 : Class := { plain "char" none with kind := .primitive 'C', accessFlags := 0x411 }
/-- [C -/
def k24 : Class := { plain "[C" (some 0) with kind := .array 23 .char, interfaces := #[13, 3], accessFlags := 1041 }

/-- the primitive int -/
def k25 : Class := { plain "int" none with kind := .primitive 'I', accessFlags := 0x411 }
/-- [I -/
def k26 : Class := { plain "[I" (some 0) with kind := .array 25 .int, interfaces := #[13, 3], accessFlags := 1041 }

def heap : Heap := #[{ cls := 8, slots := #[.long 0, .int 1, .null, .int 0, .null, .int 0, .int 0], vm := .statics 8 },
  { cls := 12, slots := #[.null, .null, .null], vm := .statics 12 },
  { cls := 14, slots := #[.null, .null, .null, .null, .null, .null, .null, .null, .null, .null, .null, .null, .null, .null, .null, .null, .null, .null, .ref 7, .null, .null, .null, .null, .int 0, .int 0, .long 0, .int 0, .int 0, .int 0, .int 0, .int 0, .int 0, .null, .null, .null, .null, .null, .null, .int 0], vm := .statics 14 },
  { cls := 18, slots := #[.null, .null, .ref 8, .null, .null], vm := .statics 18 },
  { cls := 22, slots := #[], vm := .none },
  { cls := 8, slots := #[.ref 4, .int 0, .int 0, .int 0], vm := .none },
  { cls := 19, slots := #[.ref 5, .null, .null, .null, .int 0], vm := .none },
  { cls := 14, slots := #[.ref 6, .null, .int 0, .null], vm := .none },
  { cls := 18, slots := #[], vm := .none }]
def classes : Array Class := #[k0, k1, k2, k3, k4, k5, k6, k7, k8, k9, k10, k11, k12, k13, k14, k15, k16, k17, k18, k19, k20, k21, k22, k23, k24, k25, k26]
def interned : List (Array UInt16 × Addr) := []
def slotsUsed : Nat := 67
def theMethod : MethodId := ⟨1, 7⟩
def args0 : Array Value := #[.int 260, .int 390, .int 7, .int 11, .int 131]
def aboutOver (below : List Frame) : State where
  vm := { classes := classes, interned := interned.toArray }
  heap := heap
  slotsUsed := slotsUsed
  threads := #[{ frames := .invoking theMethod args0 :: below }]
def below0 : List Frame := [.native { method := ⟨0, 0⟩, args := #[] }]
def about1 : State := aboutOver below0
def p0 : Program := .bare "" "" ""
def e0 : Env := launch0.env 0 0 0
theorem w_frames : about1.frames = Frame.invoking theMethod args0 :: below0 := rfl
set_option maxRecDepth 65536 in
theorem w_args : argsFit about1.vm theMethod args0 = true := by decide +kernel
set_option maxRecDepth 65536 in
theorem w_heap : heapFits about1 = true := by decide +kernel
set_option maxRecDepth 65536 in
theorem w_runnable : about1.curStatus? = some .runnable := by decide +kernel
set_option maxRecDepth 65536 in
theorem w_alone : about1.alone = true := by decide +kernel
set_option maxRecDepth 65536 in
theorem w_named : about1.methodNamed? x = some theMethod := by decide +kernel
set_option maxRecDepth 65536 in
theorem w_hears : about1.hears theMethod below0 = true := by decide +kernel
set_option maxRecDepth 65536 in
theorem w_ripe : about1.ripe theMethod args0 below0 = true := by decide +kernel
theorem w_running : about1.status = .running := rfl
set_option maxRecDepth 65536 in
theorem w_room : about1.hasRoom e0.platform room_1 = true :=
  launch0.hasRoom_least _ room_1 (by decide +kernel) (by decide +kernel) (by decide +kernel) (by decide +kernel) (by decide +kernel) (by decide +kernel)
theorem allAtoms_all (ts : List Jvm.Cond) (a : Array Jvm.Value) (st : Jvm.State) : (allAtoms ts).before a st = ts.all (fun c => c.before a st) := by
  induction ts with
  | nil => rfl
  | cons c t ih =>
    show (Jvm.Cond.and c (allAtoms t)).before a st = _
    rw [Jvm.Cond.before_and, ih, List.all_cons]
def words1 : List Jvm.Cond := Jvm.Cond.code x code maxLocals ret :: tables_1
/-- a 'code' word, met by the world's own term for the bytes: nothing is compared byte by byte -/
theorem code_word {y : MethodName} {bytes : ByteArray} {mx : Nat} {rt : Option FieldType} {a : Array Value} {s : State} {m : MethodId} {meth : Method} {c : Code} (h1 : s.methodNamed? y = some m) (h2 : s.vm.method? m = some meth) (h3 : meth.code = some c) (h4 : c.code = bytes)
    (h5 : (c.maxLocals == mx && c.exceptionTable.isEmpty && decide (c.maxStack ≤ mostOperands) && decide (meth.sig.returnType = rt) && !meth.locks && decide (parseMethodDescriptor y.desc = some meth.sig)) = true) : (Jvm.Cond.code y bytes mx rt).before a s = true := by
  simp only [Bool.and_eq_true, beq_iff_eq, Bool.not_eq_true', decide_eq_true_eq] at h5
  obtain ⟨⟨⟨⟨⟨g1, g2⟩, g3⟩, g4⟩, g5⟩, g6⟩ := h5
  simp [Cond.before, Cond.holds, Cond.value, h1, h2, h3, h4, g1, g2, g3, g4, g5, g6]
def isCode : Jvm.Cond → Bool
  | .code _ _ _ _ => true
  | _ => false
theorem all_split {L : List Jvm.Cond} {P : Jvm.Cond → Bool} (h1 : L.all (fun c => isCode c || P c) = true) (h2 : ∀ c ∈ L.filter isCode, P c = true) : L.all P = true := by
  refine List.all_eq_true.mpr fun c hc => ?_
  have h := List.all_eq_true.mp h1 c hc
  rcases Bool.eq_false_or_eq_true (isCode c) with hi | hi
  · exact h2 c (List.mem_filter.mpr ⟨hc, hi⟩)
  · simpa [hi] using h
set_option maxRecDepth 65536 in
theorem w_c0 : (Jvm.Cond.code x code maxLocals ret).before args0 about1 = true := code_word (m := ⟨1, 7⟩) (meth := k1m7) (c := k1c7) (by decide +kernel) rfl rfl rfl (by decide +kernel)
set_option maxRecDepth 65536 in
theorem w_c1 : (Jvm.Cond.code ({ cls := "com/example/handoff/handoff/internal/MediaTypesEssencePinLaw", name := "draw", desc := "(I)C" } : Jvm.MethodName) method_2_code (2 : Nat) (Option.some Jvm.ClassFile.FieldType.char)).before args0 about1 = true := code_word (m := ⟨1, 1⟩) (meth := k1m1) (c := k1c1) (by decide +kernel) rfl rfl rfl (by decide +kernel)
set_option maxRecDepth 65536 in
theorem w_c2 : (Jvm.Cond.code ({ cls := "com/example/handoff/handoff/internal/MediaTypesEssencePinLaw", name := "firstSemi", desc := "([C)I" } : Jvm.MethodName) method_4_code (1 : Nat) (Option.some Jvm.ClassFile.FieldType.int)).before args0 about1 = true := code_word (m := ⟨1, 3⟩) (meth := k1m3) (c := k1c3) (by decide +kernel) rfl rfl rfl (by decide +kernel)
set_option maxRecDepth 65536 in
theorem w_c3 : (Jvm.Cond.code ({ cls := "com/example/handoff/handoff/internal/MediaTypesEssencePinLaw", name := "firstSolid", desc := "([CI)I" } : Jvm.MethodName) method_5_code (2 : Nat) (Option.some Jvm.ClassFile.FieldType.int)).before args0 about1 = true := code_word (m := ⟨1, 4⟩) (meth := k1m4) (c := k1c4) (by decide +kernel) rfl rfl rfl (by decide +kernel)
set_option maxRecDepth 65536 in
theorem w_c4 : (Jvm.Cond.code ({ cls := "com/example/handoff/handoff/internal/MediaTypesEssencePinLaw", name := "lastSolidEnd", desc := "([CI)I" } : Jvm.MethodName) method_6_code (2 : Nat) (Option.some Jvm.ClassFile.FieldType.int)).before args0 about1 = true := code_word (m := ⟨1, 5⟩) (meth := k1m5) (c := k1c5) (by decide +kernel) rfl rfl rfl (by decide +kernel)
set_option maxRecDepth 65536 in
theorem w_c5 : (Jvm.Cond.code ({ cls := "java/lang/Math", name := "max", desc := "(II)I" } : Jvm.MethodName) jdk_29_method_65_code (2 : Nat) (Option.some Jvm.ClassFile.FieldType.int)).before args0 about1 = true := code_word (m := ⟨2, 1⟩) (meth := k2m1) (c := k2c1) (by decide +kernel) rfl rfl rfl (by decide +kernel)
set_option maxRecDepth 65536 in
theorem w_c6 : (Jvm.Cond.code ({ cls := "java/lang/String", name := "<init>", desc := "([C)V" } : Jvm.MethodName) jdk_42_method_3_code (2 : Nat) (Option.none : Option Jvm.ClassFile.FieldType)).before args0 about1 = true := code_word (m := ⟨8, 1⟩) (meth := k8m1) (c := k8c1) (by decide +kernel) rfl rfl rfl (by decide +kernel)
set_option maxRecDepth 65536 in
theorem w_c7 : (Jvm.Cond.code ({ cls := "java/lang/String", name := "<init>", desc := "([CIILjava/lang/Void;)V" } : Jvm.MethodName) jdk_42_method_149_code (6 : Nat) (Option.none : Option Jvm.ClassFile.FieldType)).before args0 about1 = true := code_word (m := ⟨8, 9⟩) (meth := k8m9) (c := k8c9) (by decide +kernel) rfl rfl rfl (by decide +kernel)
set_option maxRecDepth 65536 in
theorem w_c8 : (Jvm.Cond.code ({ cls := "java/lang/Object", name := "<init>", desc := "()V" } : Jvm.MethodName) object_method_1_code (1 : Nat) (Option.none : Option Jvm.ClassFile.FieldType)).before args0 about1 = true := code_word (m := ⟨0, 0⟩) (meth := k0m0) (c := k0c0) (by decide +kernel) rfl rfl rfl (by decide +kernel)
set_option maxRecDepth 65536 in
theorem w_c9 : (Jvm.Cond.code ({ cls := "java/lang/StringUTF16", name := "compress", desc := "([CII)[B" } : Jvm.MethodName) jdk_52_method_16_code (6 : Nat) (Option.some (Jvm.ClassFile.FieldType.array Jvm.ClassFile.FieldType.byte))).before args0 about1 = true := code_word (m := ⟨9, 2⟩) (meth := k9m2) (c := k9c2) (by decide +kernel) rfl rfl rfl (by decide +kernel)
set_option maxRecDepth 65536 in
theorem w_c10 : (Jvm.Cond.code ({ cls := "java/lang/StringUTF16", name := "compress", desc := "([CI[BII)I" } : Jvm.MethodName) jdk_52_method_21_code (7 : Nat) (Option.some Jvm.ClassFile.FieldType.int)).before args0 about1 = true := code_word (m := ⟨9, 3⟩) (meth := k9m3) (c := k9c3) (by decide +kernel) rfl rfl rfl (by decide +kernel)
set_option maxRecDepth 65536 in
theorem w_c11 : (Jvm.Cond.code ({ cls := "java/lang/StringUTF16", name := "coderFromArrayLen", desc := "([BI)B" } : Jvm.MethodName) jdk_52_method_15_code (2 : Nat) (Option.some Jvm.ClassFile.FieldType.byte)).before args0 about1 = true := code_word (m := ⟨9, 1⟩) (meth := k9m1) (c := k9c1) (by decide +kernel) rfl rfl rfl (by decide +kernel)
set_option maxRecDepth 65536 in
theorem w_c12 : (Jvm.Cond.code ({ cls := "com/example/handoff/handoff/internal/MediaTypes", name := "essence", desc := "(Ljava/lang/String;)Ljava/lang/String;" } : Jvm.MethodName) prog_15_method_2_code (3 : Nat) (Option.some (Jvm.ClassFile.FieldType.object "java/lang/String"))).before args0 about1 = true := code_word (m := ⟨10, 1⟩) (meth := k10m1) (c := k10c1) (by decide +kernel) rfl rfl rfl (by decide +kernel)
set_option maxRecDepth 65536 in
theorem w_c13 : (Jvm.Cond.code ({ cls := "java/lang/String", name := "indexOf", desc := "(I)I" } : Jvm.MethodName) jdk_42_method_79_code (2 : Nat) (Option.some Jvm.ClassFile.FieldType.int)).before args0 about1 = true := code_word (m := ⟨8, 4⟩) (meth := k8m4) (c := k8c4) (by decide +kernel) rfl rfl rfl (by decide +kernel)
set_option maxRecDepth 65536 in
theorem w_c14 : (Jvm.Cond.code ({ cls := "java/lang/String", name := "indexOf", desc := "(II)I" } : Jvm.MethodName) jdk_42_method_80_code (3 : Nat) (Option.some Jvm.ClassFile.FieldType.int)).before args0 about1 = true := code_word (m := ⟨8, 5⟩) (meth := k8m5) (c := k8c5) (by decide +kernel) rfl rfl rfl (by decide +kernel)
set_option maxRecDepth 65536 in
theorem w_c15 : (Jvm.Cond.code ({ cls := "java/lang/String", name := "isLatin1", desc := "()Z" } : Jvm.MethodName) jdk_42_method_154_code (1 : Nat) (Option.some Jvm.ClassFile.FieldType.boolean)).before args0 about1 = true := code_word (m := ⟨8, 12⟩) (meth := k8m12) (c := k8c12) (by decide +kernel) rfl rfl rfl (by decide +kernel)
set_option maxRecDepth 65536 in
theorem w_c16 : (Jvm.Cond.code ({ cls := "java/lang/String", name := "length", desc := "()I" } : Jvm.MethodName) jdk_42_method_54_code (1 : Nat) (Option.some Jvm.ClassFile.FieldType.int)).before args0 about1 = true := code_word (m := ⟨8, 2⟩) (meth := k8m2) (c := k8c2) (by decide +kernel) rfl rfl rfl (by decide +kernel)
set_option maxRecDepth 65536 in
theorem w_c17 : (Jvm.Cond.code ({ cls := "java/lang/String", name := "coder", desc := "()B" } : Jvm.MethodName) jdk_42_method_152_code (1 : Nat) (Option.some Jvm.ClassFile.FieldType.byte)).before args0 about1 = true := code_word (m := ⟨8, 11⟩) (meth := k8m11) (c := k8c11) (by decide +kernel) rfl rfl rfl (by decide +kernel)
set_option maxRecDepth 65536 in
theorem w_c18 : (Jvm.Cond.code ({ cls := "java/lang/StringLatin1", name := "indexOf", desc := "([BIII)I" } : Jvm.MethodName) jdk_43_method_22_code (4 : Nat) (Option.some Jvm.ClassFile.FieldType.int)).before args0 about1 = true := code_word (m := ⟨11, 3⟩) (meth := k11m3) (c := k11c3) (by decide +kernel) rfl rfl rfl (by decide +kernel)
set_option maxRecDepth 65536 in
theorem w_c19 : (Jvm.Cond.code ({ cls := "java/lang/StringLatin1", name := "canEncode", desc := "(I)Z" } : Jvm.MethodName) jdk_43_method_4_code (1 : Nat) (Option.some Jvm.ClassFile.FieldType.boolean)).before args0 about1 = true := code_word (m := ⟨11, 2⟩) (meth := k11m2) (c := k11c2) (by decide +kernel) rfl rfl rfl (by decide +kernel)
set_option maxRecDepth 65536 in
theorem w_c20 : (Jvm.Cond.code ({ cls := "java/lang/Math", name := "min", desc := "(II)I" } : Jvm.MethodName) jdk_29_method_69_code (2 : Nat) (Option.some Jvm.ClassFile.FieldType.int)).before args0 about1 = true := code_word (m := ⟨2, 2⟩) (meth := k2m2) (c := k2c2) (by decide +kernel) rfl rfl rfl (by decide +kernel)
set_option maxRecDepth 65536 in
theorem w_c21 : (Jvm.Cond.code ({ cls := "java/lang/StringLatin1", name := "indexOfChar", desc := "([BIII)I" } : Jvm.MethodName) jdk_43_method_23_code (6 : Nat) (Option.some Jvm.ClassFile.FieldType.int)).before args0 about1 = true := code_word (m := ⟨11, 4⟩) (meth := k11m4) (c := k11c4) (by decide +kernel) rfl rfl rfl (by decide +kernel)
set_option maxRecDepth 65536 in
theorem w_c22 : (Jvm.Cond.code ({ cls := "java/lang/String", name := "substring", desc := "(II)Ljava/lang/String;" } : Jvm.MethodName) jdk_42_method_92_code (5 : Nat) (Option.some (Jvm.ClassFile.FieldType.object "java/lang/String"))).before args0 about1 = true := code_word (m := ⟨8, 6⟩) (meth := k8m6) (c := k8c6) (by decide +kernel) rfl rfl rfl (by decide +kernel)
set_option maxRecDepth 65536 in
theorem w_c23 : (Jvm.Cond.code ({ cls := "java/lang/String", name := "checkBoundsBeginEnd", desc := "(III)V" } : Jvm.MethodName) jdk_42_method_158_code (3 : Nat) (Option.none : Option Jvm.ClassFile.FieldType)).before args0 about1 = true := code_word (m := ⟨8, 14⟩) (meth := k8m14) (c := k8c14) (by decide +kernel) rfl rfl rfl (by decide +kernel)
set_option maxRecDepth 65536 in
theorem w_c24 : (Jvm.Cond.code ({ cls := "jdk/internal/util/Preconditions", name := "checkFromToIndex", desc := "(IIILjava/util/function/BiFunction;)I" } : Jvm.MethodName) jdk_41_method_12_code (4 : Nat) (Option.some Jvm.ClassFile.FieldType.int)).before args0 about1 = true := code_word (m := ⟨12, 2⟩) (meth := k12m2) (c := k12c2) (by decide +kernel) rfl rfl rfl (by decide +kernel)
set_option maxRecDepth 65536 in
theorem w_c25 : (Jvm.Cond.code ({ cls := "java/lang/StringLatin1", name := "newString", desc := "([BII)Ljava/lang/String;" } : Jvm.MethodName) jdk_43_method_47_code (3 : Nat) (Option.some (Jvm.ClassFile.FieldType.object "java/lang/String"))).before args0 about1 = true := code_word (m := ⟨11, 7⟩) (meth := k11m7) (c := k11c7) (by decide +kernel) rfl rfl rfl (by decide +kernel)
set_option maxRecDepth 65536 in
theorem w_c26 : (Jvm.Cond.code ({ cls := "java/lang/String", name := "trim", desc := "()Ljava/lang/String;" } : Jvm.MethodName) jdk_42_method_113_code (2 : Nat) (Option.some (Jvm.ClassFile.FieldType.object "java/lang/String"))).before args0 about1 = true := code_word (m := ⟨8, 8⟩) (meth := k8m8) (c := k8c8) (by decide +kernel) rfl rfl rfl (by decide +kernel)
set_option maxRecDepth 65536 in
theorem w_c27 : (Jvm.Cond.code ({ cls := "java/lang/StringLatin1", name := "trim", desc := "([B)Ljava/lang/String;" } : Jvm.MethodName) jdk_43_method_36_code (3 : Nat) (Option.some (Jvm.ClassFile.FieldType.object "java/lang/String"))).before args0 about1 = true := code_word (m := ⟨11, 6⟩) (meth := k11m6) (c := k11c6) (by decide +kernel) rfl rfl rfl (by decide +kernel)
set_option maxRecDepth 65536 in
theorem w_c28 : (Jvm.Cond.code ({ cls := "java/lang/String", name := "toLowerCase", desc := "(Ljava/util/Locale;)Ljava/lang/String;" } : Jvm.MethodName) jdk_42_method_109_code (2 : Nat) (Option.some (Jvm.ClassFile.FieldType.object "java/lang/String"))).before args0 about1 = true := code_word (m := ⟨8, 7⟩) (meth := k8m7) (c := k8c7) (by decide +kernel) rfl rfl rfl (by decide +kernel)
set_option maxRecDepth 65536 in
theorem w_c29 : (Jvm.Cond.code ({ cls := "java/lang/StringLatin1", name := "toLowerCase", desc := "(Ljava/lang/String;[BLjava/util/Locale;)Ljava/lang/String;" } : Jvm.MethodName) jdk_43_method_32_code (9 : Nat) (Option.some (Jvm.ClassFile.FieldType.object "java/lang/String"))).before args0 about1 = true := code_word (m := ⟨11, 5⟩) (meth := k11m5) (c := k11c5) (by decide +kernel) rfl rfl rfl (by decide +kernel)
set_option maxRecDepth 65536 in
theorem w_c30 : (Jvm.Cond.code ({ cls := "com/example/handoff/handoff/internal/MediaTypesEssencePinLaw", name := "at", desc := "(Ljava/lang/String;II[CI)Z" } : Jvm.MethodName) method_7_code (5 : Nat) (Option.some Jvm.ClassFile.FieldType.boolean)).before args0 about1 = true := code_word (m := ⟨1, 6⟩) (meth := k1m6) (c := k1c6) (by decide +kernel) rfl rfl rfl (by decide +kernel)
set_option maxRecDepth 65536 in
theorem w_c31 : (Jvm.Cond.code ({ cls := "java/util/Arrays", name := "copyOfRange", desc := "([BII)[B" } : Jvm.MethodName) jdk_65_method_132_code (3 : Nat) (Option.some (Jvm.ClassFile.FieldType.array Jvm.ClassFile.FieldType.byte))).before args0 about1 = true := code_word (m := ⟨15, 2⟩) (meth := k15m2) (c := k15c2) (by decide +kernel) rfl rfl rfl (by decide +kernel)
set_option maxRecDepth 65536 in
theorem w_c32 : (Jvm.Cond.code ({ cls := "java/util/Arrays", name := "copyOfRangeByte", desc := "([BII)[B" } : Jvm.MethodName) jdk_65_method_133_code (5 : Nat) (Option.some (Jvm.ClassFile.FieldType.array Jvm.ClassFile.FieldType.byte))).before args0 about1 = true := code_word (m := ⟨15, 3⟩) (meth := k15m3) (c := k15c3) (by decide +kernel) rfl rfl rfl (by decide +kernel)
set_option maxRecDepth 65536 in
theorem w_c33 : (Jvm.Cond.code ({ cls := "java/util/Arrays", name := "checkLength", desc := "(II)V" } : Jvm.MethodName) jdk_65_method_131_code (2 : Nat) (Option.none : Option Jvm.ClassFile.FieldType)).before args0 about1 = true := code_word (m := ⟨15, 1⟩) (meth := k15m1) (c := k15c1) (by decide +kernel) rfl rfl rfl (by decide +kernel)
set_option maxRecDepth 65536 in
theorem w_c34 : (Jvm.Cond.code ({ cls := "java/lang/String", name := "<init>", desc := "([BB)V" } : Jvm.MethodName) jdk_42_method_151_code (3 : Nat) (Option.none : Option Jvm.ClassFile.FieldType)).before args0 about1 = true := code_word (m := ⟨8, 10⟩) (meth := k8m10) (c := k8c10) (by decide +kernel) rfl rfl rfl (by decide +kernel)
set_option maxRecDepth 65536 in
theorem w_c35 : (Jvm.Cond.code ({ cls := "java/lang/CharacterDataLatin1", name := "toLowerCase", desc := "(I)I" } : Jvm.MethodName) jdk_116_method_20_code (3 : Nat) (Option.some Jvm.ClassFile.FieldType.int)).before args0 about1 = true := code_word (m := ⟨18, 0⟩) (meth := k18m0) (c := k18c0) (by decide +kernel) rfl rfl rfl (by decide +kernel)
set_option maxRecDepth 65536 in
theorem w_c36 : (Jvm.Cond.code ({ cls := "java/lang/String", name := "charAt", desc := "(I)C" } : Jvm.MethodName) jdk_42_method_56_code (2 : Nat) (Option.some Jvm.ClassFile.FieldType.char)).before args0 about1 = true := code_word (m := ⟨8, 3⟩) (meth := k8m3) (c := k8c3) (by decide +kernel) rfl rfl rfl (by decide +kernel)
set_option maxRecDepth 65536 in
theorem w_c37 : (Jvm.Cond.code ({ cls := "java/lang/StringLatin1", name := "charAt", desc := "([BI)C" } : Jvm.MethodName) jdk_43_method_2_code (2 : Nat) (Option.some Jvm.ClassFile.FieldType.char)).before args0 about1 = true := code_word (m := ⟨11, 1⟩) (meth := k11m1) (c := k11c1) (by decide +kernel) rfl rfl rfl (by decide +kernel)
set_option maxRecDepth 65536 in
theorem w_c38 : (Jvm.Cond.code ({ cls := "java/lang/String", name := "checkIndex", desc := "(II)V" } : Jvm.MethodName) jdk_42_method_155_code (2 : Nat) (Option.none : Option Jvm.ClassFile.FieldType)).before args0 about1 = true := code_word (m := ⟨8, 13⟩) (meth := k8m13) (c := k8c13) (by decide +kernel) rfl rfl rfl (by decide +kernel)
set_option maxRecDepth 65536 in
theorem w_c39 : (Jvm.Cond.code ({ cls := "jdk/internal/util/Preconditions", name := "checkIndex", desc := "(IILjava/util/function/BiFunction;)I" } : Jvm.MethodName) jdk_41_method_11_code (3 : Nat) (Option.some Jvm.ClassFile.FieldType.int)).before args0 about1 = true := code_word (m := ⟨12, 1⟩) (meth := k12m1) (c := k12c1) (by decide +kernel) rfl rfl rfl (by decide +kernel)
set_option maxRecDepth 65536 in
theorem w_c40 : (Jvm.Cond.code ({ cls := "com/example/handoff/handoff/internal/MediaTypesEssencePinLaw", name := "lower", desc := "(C)C" } : Jvm.MethodName) method_3_code (1 : Nat) (Option.some Jvm.ClassFile.FieldType.char)).before args0 about1 = true := code_word (m := ⟨1, 2⟩) (meth := k1m2) (c := k1c2) (by decide +kernel) rfl rfl rfl (by decide +kernel)
set_option maxRecDepth 65536 in
theorem w_c41 : (Jvm.Cond.code ({ cls := "java/util/Locale", name := "getLanguage", desc := "()Ljava/lang/String;" } : Jvm.MethodName) jdk_2628_method_27_code (1 : Nat) (Option.some (Jvm.ClassFile.FieldType.object "java/lang/String"))).before args0 about1 = true := code_word (m := ⟨14, 0⟩) (meth := k14m0) (c := k14c0) (by decide +kernel) rfl rfl rfl (by decide +kernel)
set_option maxRecDepth 65536 in
theorem w_c42 : (Jvm.Cond.code ({ cls := "sun/util/locale/BaseLocale", name := "getLanguage", desc := "()Ljava/lang/String;" } : Jvm.MethodName) jdk_3003_method_5_code (1 : Nat) (Option.some (Jvm.ClassFile.FieldType.object "java/lang/String"))).before args0 about1 = true := code_word (m := ⟨19, 0⟩) (meth := k19m0) (c := k19c0) (by decide +kernel) rfl rfl rfl (by decide +kernel)
def codes1 : List Jvm.Cond := [Jvm.Cond.code x code maxLocals ret, Jvm.Cond.code ({ cls := "com/example/handoff/handoff/internal/MediaTypesEssencePinLaw", name := "draw", desc := "(I)C" } : Jvm.MethodName) method_2_code (2 : Nat) (Option.some Jvm.ClassFile.FieldType.char), Jvm.Cond.code ({ cls := "com/example/handoff/handoff/internal/MediaTypesEssencePinLaw", name := "firstSemi", desc := "([C)I" } : Jvm.MethodName) method_4_code (1 : Nat) (Option.some Jvm.ClassFile.FieldType.int), Jvm.Cond.code ({ cls := "com/example/handoff/handoff/internal/MediaTypesEssencePinLaw", name := "firstSolid", desc := "([CI)I" } : Jvm.MethodName) method_5_code (2 : Nat) (Option.some Jvm.ClassFile.FieldType.int), Jvm.Cond.code ({ cls := "com/example/handoff/handoff/internal/MediaTypesEssencePinLaw", name := "lastSolidEnd", desc := "([CI)I" } : Jvm.MethodName) method_6_code (2 : Nat) (Option.some Jvm.ClassFile.FieldType.int), Jvm.Cond.code ({ cls := "java/lang/Math", name := "max", desc := "(II)I" } : Jvm.MethodName) jdk_29_method_65_code (2 : Nat) (Option.some Jvm.ClassFile.FieldType.int), Jvm.Cond.code ({ cls := "java/lang/String", name := "<init>", desc := "([C)V" } : Jvm.MethodName) jdk_42_method_3_code (2 : Nat) (Option.none : Option Jvm.ClassFile.FieldType), Jvm.Cond.code ({ cls := "java/lang/String", name := "<init>", desc := "([CIILjava/lang/Void;)V" } : Jvm.MethodName) jdk_42_method_149_code (6 : Nat) (Option.none : Option Jvm.ClassFile.FieldType), Jvm.Cond.code ({ cls := "java/lang/Object", name := "<init>", desc := "()V" } : Jvm.MethodName) object_method_1_code (1 : Nat) (Option.none : Option Jvm.ClassFile.FieldType), Jvm.Cond.code ({ cls := "java/lang/StringUTF16", name := "compress", desc := "([CII)[B" } : Jvm.MethodName) jdk_52_method_16_code (6 : Nat) (Option.some (Jvm.ClassFile.FieldType.array Jvm.ClassFile.FieldType.byte)), Jvm.Cond.code ({ cls := "java/lang/StringUTF16", name := "compress", desc := "([CI[BII)I" } : Jvm.MethodName) jdk_52_method_21_code (7 : Nat) (Option.some Jvm.ClassFile.FieldType.int), Jvm.Cond.code ({ cls := "java/lang/StringUTF16", name := "coderFromArrayLen", desc := "([BI)B" } : Jvm.MethodName) jdk_52_method_15_code (2 : Nat) (Option.some Jvm.ClassFile.FieldType.byte), Jvm.Cond.code ({ cls := "com/example/handoff/handoff/internal/MediaTypes", name := "essence", desc := "(Ljava/lang/String;)Ljava/lang/String;" } : Jvm.MethodName) prog_15_method_2_code (3 : Nat) (Option.some (Jvm.ClassFile.FieldType.object "java/lang/String")), Jvm.Cond.code ({ cls := "java/lang/String", name := "indexOf", desc := "(I)I" } : Jvm.MethodName) jdk_42_method_79_code (2 : Nat) (Option.some Jvm.ClassFile.FieldType.int), Jvm.Cond.code ({ cls := "java/lang/String", name := "indexOf", desc := "(II)I" } : Jvm.MethodName) jdk_42_method_80_code (3 : Nat) (Option.some Jvm.ClassFile.FieldType.int), Jvm.Cond.code ({ cls := "java/lang/String", name := "isLatin1", desc := "()Z" } : Jvm.MethodName) jdk_42_method_154_code (1 : Nat) (Option.some Jvm.ClassFile.FieldType.boolean), Jvm.Cond.code ({ cls := "java/lang/String", name := "length", desc := "()I" } : Jvm.MethodName) jdk_42_method_54_code (1 : Nat) (Option.some Jvm.ClassFile.FieldType.int), Jvm.Cond.code ({ cls := "java/lang/String", name := "coder", desc := "()B" } : Jvm.MethodName) jdk_42_method_152_code (1 : Nat) (Option.some Jvm.ClassFile.FieldType.byte), Jvm.Cond.code ({ cls := "java/lang/StringLatin1", name := "indexOf", desc := "([BIII)I" } : Jvm.MethodName) jdk_43_method_22_code (4 : Nat) (Option.some Jvm.ClassFile.FieldType.int), Jvm.Cond.code ({ cls := "java/lang/StringLatin1", name := "canEncode", desc := "(I)Z" } : Jvm.MethodName) jdk_43_method_4_code (1 : Nat) (Option.some Jvm.ClassFile.FieldType.boolean), Jvm.Cond.code ({ cls := "java/lang/Math", name := "min", desc := "(II)I" } : Jvm.MethodName) jdk_29_method_69_code (2 : Nat) (Option.some Jvm.ClassFile.FieldType.int), Jvm.Cond.code ({ cls := "java/lang/StringLatin1", name := "indexOfChar", desc := "([BIII)I" } : Jvm.MethodName) jdk_43_method_23_code (6 : Nat) (Option.some Jvm.ClassFile.FieldType.int), Jvm.Cond.code ({ cls := "java/lang/String", name := "substring", desc := "(II)Ljava/lang/String;" } : Jvm.MethodName) jdk_42_method_92_code (5 : Nat) (Option.some (Jvm.ClassFile.FieldType.object "java/lang/String")), Jvm.Cond.code ({ cls := "java/lang/String", name := "checkBoundsBeginEnd", desc := "(III)V" } : Jvm.MethodName) jdk_42_method_158_code (3 : Nat) (Option.none : Option Jvm.ClassFile.FieldType), Jvm.Cond.code ({ cls := "jdk/internal/util/Preconditions", name := "checkFromToIndex", desc := "(IIILjava/util/function/BiFunction;)I" } : Jvm.MethodName) jdk_41_method_12_code (4 : Nat) (Option.some Jvm.ClassFile.FieldType.int), Jvm.Cond.code ({ cls := "java/lang/StringLatin1", name := "newString", desc := "([BII)Ljava/lang/String;" } : Jvm.MethodName) jdk_43_method_47_code (3 : Nat) (Option.some (Jvm.ClassFile.FieldType.object "java/lang/String")), Jvm.Cond.code ({ cls := "java/lang/String", name := "trim", desc := "()Ljava/lang/String;" } : Jvm.MethodName) jdk_42_method_113_code (2 : Nat) (Option.some (Jvm.ClassFile.FieldType.object "java/lang/String")), Jvm.Cond.code ({ cls := "java/lang/StringLatin1", name := "trim", desc := "([B)Ljava/lang/String;" } : Jvm.MethodName) jdk_43_method_36_code (3 : Nat) (Option.some (Jvm.ClassFile.FieldType.object "java/lang/String")), Jvm.Cond.code ({ cls := "java/lang/String", name := "toLowerCase", desc := "(Ljava/util/Locale;)Ljava/lang/String;" } : Jvm.MethodName) jdk_42_method_109_code (2 : Nat) (Option.some (Jvm.ClassFile.FieldType.object "java/lang/String")), Jvm.Cond.code ({ cls := "java/lang/StringLatin1", name := "toLowerCase", desc := "(Ljava/lang/String;[BLjava/util/Locale;)Ljava/lang/String;" } : Jvm.MethodName) jdk_43_method_32_code (9 : Nat) (Option.some (Jvm.ClassFile.FieldType.object "java/lang/String")), Jvm.Cond.code ({ cls := "com/example/handoff/handoff/internal/MediaTypesEssencePinLaw", name := "at", desc := "(Ljava/lang/String;II[CI)Z" } : Jvm.MethodName) method_7_code (5 : Nat) (Option.some Jvm.ClassFile.FieldType.boolean), Jvm.Cond.code ({ cls := "java/util/Arrays", name := "copyOfRange", desc := "([BII)[B" } : Jvm.MethodName) jdk_65_method_132_code (3 : Nat) (Option.some (Jvm.ClassFile.FieldType.array Jvm.ClassFile.FieldType.byte)), Jvm.Cond.code ({ cls := "java/util/Arrays", name := "copyOfRangeByte", desc := "([BII)[B" } : Jvm.MethodName) jdk_65_method_133_code (5 : Nat) (Option.some (Jvm.ClassFile.FieldType.array Jvm.ClassFile.FieldType.byte)), Jvm.Cond.code ({ cls := "java/util/Arrays", name := "checkLength", desc := "(II)V" } : Jvm.MethodName) jdk_65_method_131_code (2 : Nat) (Option.none : Option Jvm.ClassFile.FieldType), Jvm.Cond.code ({ cls := "java/lang/String", name := "<init>", desc := "([BB)V" } : Jvm.MethodName) jdk_42_method_151_code (3 : Nat) (Option.none : Option Jvm.ClassFile.FieldType), Jvm.Cond.code ({ cls := "java/lang/CharacterDataLatin1", name := "toLowerCase", desc := "(I)I" } : Jvm.MethodName) jdk_116_method_20_code (3 : Nat) (Option.some Jvm.ClassFile.FieldType.int), Jvm.Cond.code ({ cls := "java/lang/String", name := "charAt", desc := "(I)C" } : Jvm.MethodName) jdk_42_method_56_code (2 : Nat) (Option.some Jvm.ClassFile.FieldType.char), Jvm.Cond.code ({ cls := "java/lang/StringLatin1", name := "charAt", desc := "([BI)C" } : Jvm.MethodName) jdk_43_method_2_code (2 : Nat) (Option.some Jvm.ClassFile.FieldType.char), Jvm.Cond.code ({ cls := "java/lang/String", name := "checkIndex", desc := "(II)V" } : Jvm.MethodName) jdk_42_method_155_code (2 : Nat) (Option.none : Option Jvm.ClassFile.FieldType), Jvm.Cond.code ({ cls := "jdk/internal/util/Preconditions", name := "checkIndex", desc := "(IILjava/util/function/BiFunction;)I" } : Jvm.MethodName) jdk_41_method_11_code (3 : Nat) (Option.some Jvm.ClassFile.FieldType.int), Jvm.Cond.code ({ cls := "com/example/handoff/handoff/internal/MediaTypesEssencePinLaw", name := "lower", desc := "(C)C" } : Jvm.MethodName) method_3_code (1 : Nat) (Option.some Jvm.ClassFile.FieldType.char), Jvm.Cond.code ({ cls := "java/util/Locale", name := "getLanguage", desc := "()Ljava/lang/String;" } : Jvm.MethodName) jdk_2628_method_27_code (1 : Nat) (Option.some (Jvm.ClassFile.FieldType.object "java/lang/String")), Jvm.Cond.code ({ cls := "sun/util/locale/BaseLocale", name := "getLanguage", desc := "()Ljava/lang/String;" } : Jvm.MethodName) jdk_3003_method_5_code (1 : Nat) (Option.some (Jvm.ClassFile.FieldType.object "java/lang/String"))]
set_option maxRecDepth 65536 in
theorem codes_eq : words1.filter isCode = codes1 := rfl
theorem w_codes : ∀ c ∈ words1.filter isCode, c.before args0 about1 = true := by
  rw [codes_eq]
  intro c hc
  simp only [codes1, List.mem_cons, List.not_mem_nil, or_false] at hc
  rcases hc with rfl | rfl | rfl | rfl | rfl | rfl | rfl | rfl | rfl | rfl | rfl | rfl | rfl | rfl | rfl | rfl | rfl | rfl | rfl | rfl | rfl | rfl | rfl | rfl | rfl | rfl | rfl | rfl | rfl | rfl | rfl | rfl | rfl | rfl | rfl | rfl | rfl | rfl | rfl | rfl | rfl | rfl | rfl
  · exact w_c0
  · exact w_c1
  · exact w_c2
  · exact w_c3
  · exact w_c4
  · exact w_c5
  · exact w_c6
  · exact w_c7
  · exact w_c8
  · exact w_c9
  · exact w_c10
  · exact w_c11
  · exact w_c12
  · exact w_c13
  · exact w_c14
  · exact w_c15
  · exact w_c16
  · exact w_c17
  · exact w_c18
  · exact w_c19
  · exact w_c20
  · exact w_c21
  · exact w_c22
  · exact w_c23
  · exact w_c24
  · exact w_c25
  · exact w_c26
  · exact w_c27
  · exact w_c28
  · exact w_c29
  · exact w_c30
  · exact w_c31
  · exact w_c32
  · exact w_c33
  · exact w_c34
  · exact w_c35
  · exact w_c36
  · exact w_c37
  · exact w_c38
  · exact w_c39
  · exact w_c40
  · exact w_c41
  · exact w_c42
set_option maxRecDepth 65536 in
theorem w_t1 : (words1.take 24).all (fun c => isCode c || c.before args0 about1) = true := by decide +kernel
set_option maxRecDepth 65536 in
theorem w_t2 : ((words1.drop 24).take 24).all (fun c => isCode c || c.before args0 about1) = true := by decide +kernel
set_option maxRecDepth 65536 in
theorem w_t3 : (((words1.drop 24).drop 24).take 24).all (fun c => isCode c || c.before args0 about1) = true := by decide +kernel
set_option maxRecDepth 65536 in
theorem w_t4 : ((((words1.drop 24).drop 24).drop 24).take 24).all (fun c => isCode c || c.before args0 about1) = true := by decide +kernel
set_option maxRecDepth 65536 in
theorem w_t5 : (((((words1.drop 24).drop 24).drop 24).drop 24).take 24).all (fun c => isCode c || c.before args0 about1) = true := by decide +kernel
set_option maxRecDepth 65536 in
theorem w_t6 : ((((((words1.drop 24).drop 24).drop 24).drop 24).drop 24).take 24).all (fun c => isCode c || c.before args0 about1) = true := by decide +kernel
set_option maxRecDepth 65536 in
theorem w_t7 : (((((((words1.drop 24).drop 24).drop 24).drop 24).drop 24).drop 24).take 24).all (fun c => isCode c || c.before args0 about1) = true := by decide +kernel
set_option maxRecDepth 65536 in
theorem w_t8 : ((((((((words1.drop 24).drop 24).drop 24).drop 24).drop 24).drop 24).drop 24).take 24).all (fun c => isCode c || c.before args0 about1) = true := by decide +kernel
set_option maxRecDepth 65536 in
theorem w_t9 : ((((((((words1.drop 24).drop 24).drop 24).drop 24).drop 24).drop 24).drop 24).drop 24).all (fun c => isCode c || c.before args0 about1) = true := by decide +kernel
theorem w_tables : (allAtoms (Jvm.Cond.code x code maxLocals ret :: tables_1)).before args0 about1 = true := by
  rw [allAtoms_all]
  show words1.all (fun c => c.before args0 about1) = true
  refine all_split ?_ w_codes
  rw [← List.take_append_drop 24 words1, List.all_append, w_t1, ← List.take_append_drop 24 (words1.drop 24), List.all_append, w_t2, ← List.take_append_drop 24 ((words1.drop 24).drop 24), List.all_append, w_t3, ← List.take_append_drop 24 (((words1.drop 24).drop 24).drop 24), List.all_append, w_t4, ← List.take_append_drop 24 ((((words1.drop 24).drop 24).drop 24).drop 24), List.all_append, w_t5, ← List.take_append_drop 24 (((((words1.drop 24).drop 24).drop 24).drop 24).drop 24), List.all_append, w_t6, ← List.take_append_drop 24 ((((((words1.drop 24).drop 24).drop 24).drop 24).drop 24).drop 24), List.all_append, w_t7, ← List.take_append_drop 24 (((((((words1.drop 24).drop 24).drop 24).drop 24).drop 24).drop 24).drop 24), List.all_append, w_t8, w_t9]
  rfl
set_option maxRecDepth 65536 in
theorem w_rest : rest_1_c.before args0 about1 = true := by decide +kernel
set_option maxRecDepth 65536 in
theorem w_case : (Jvm.Cond.and given_1 narrow_1).before args0 about1 = true := by decide +kernel
set_option maxRecDepth 65536 in
theorem w_consts : constsHeld consts_1 about1 := Jvm.Lit.constsHeldB_iff.mp (by decide +kernel)
theorem w_applies : (headSpec (Jvm.Cond.code x code maxLocals ret :: tables_1) room_1).applies x e0.platform about1 = true :=
  (Spec.applies_iff w_frames).mpr ⟨w_running, w_runnable, w_alone, w_named, w_hears, w_ripe, w_room, w_tables⟩
theorem atStart : AtStart classFile x code maxLocals ret World_1 tables_1 room_1 Calls_1 rest_1 Pre_1 launch0 p0 e0 about1 theMethod args0 below0 :=
  ⟨lists_1, trivial, launch0.admits_env _ _ _, launch0.least_env, fairChoices_fair.cas, fairChoices_fair.clock, w_frames, w_args, w_heap, w_applies, ⟨w_consts, trivial⟩, w_rest, w_case⟩
end start1
theorem witness_1 : WitnessClaimed_1 := ⟨start1.p0, start1.e0, start1.about1, start1.theMethod, start1.args0, start1.below0, start1.atStart⟩
end Jvm.Pilot.@@N@@
