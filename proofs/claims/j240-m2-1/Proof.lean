import JvmDerived
import JvmDerived.Pilot.@@N@@Statement
import JvmDerived.Pilot.@@N@@Code
set_option linter.unusedVariables false
set_option linter.unusedSimpArgs false
/- laws to paste: Road.backV (cut by pick.py; bodies as the Statement names them) -/
namespace Jvm.Pilot.@@N@@
namespace StrChars
open Jvm Sem ClassFile Op Lib Jvm.Stand Jvm.Free.XT Jvm.Free.ALB Jvm.Free.JM Jvm.Free
open Jvm.Lib.Cold (StaticIs)
/-- a char array whose places are chars -/
def Ch (a : Addr) (A : Cell) (U : State) : Prop := Arr .char a A U ∧ Typed .char A
theorem Ch.mv {a : Addr} {A : Cell} {U U' : State} (h : Ch a A U) (hal : U.vm.Alike U'.vm) (hh : U'.heap = U.heap) : Ch a A U' := ⟨h.1.mv hal hh, h.2⟩
theorem Ch.keep {a : Addr} {A : Cell} {U U' : State} (h : Ch a A U) (hal : U.vm.Alike U'.vm) (hk : U'.heap[a]? = some A) : Ch a A U' := ⟨h.1.keep hal hk, h.2⟩
/-- what place i of a char[]'s cell holds -/
def cv (A : Cell) (i : Nat) : Int32 := match A.slots[i]? with | some (.int x) => x | _ => 0
theorem Ch.get {a : Addr} {A : Cell} {U : State} (h : Ch a A U) {i : Nat} (hi : i < A.slots.size) : A.slots[i]? = some (.int (cv A i)) := by
  have e := Array.getElem?_eq_getElem hi
  have f := h.2 i _ e
  unfold cv; rw [e]
  generalize A.slots[i] = v at f
  cases v <;> simp [fits] at f ⊢
/-- the byte that i2b leaves of a char -/
def lo8 (x : Int32) : Int32 := x.toInt8.toInt32
theorem fits_lo8 (y : Int32) : fits .byte (.int (lo8 y)) = true := by
  have h1 := y.toInt8.le_toInt
  have h2 := y.toInt8.toInt_lt
  simp only [lo8, fits, Bool.and_eq_true, decide_eq_true_eq, Int32.le_iff_toInt_le, Int8.toInt_toInt32, show (-128 : Int32).toInt = -128 from by decide, show (127 : Int32).toInt = 127 from by decide]
  omega
/-- A' is A but that each place j of lo .. hi - 1 holds f j -/
def Laid (A A' : Cell) (lo hi : Nat) (f : Nat → Value) : Prop := A'.cls = A.cls ∧ A'.vm = A.vm ∧ A'.slots.size = A.slots.size ∧ ∀ i, A'.slots[i]? = if lo ≤ i ∧ i < hi then some (f i) else A.slots[i]?
theorem Laid.zero (A : Cell) (lo : Nat) (f : Nat → Value) : Laid A A lo (lo + 0) f := ⟨rfl, rfl, rfl, fun i => by rw [if_neg (by omega)]⟩
theorem Laid.step {A Ak : Cell} {lo k : Nat} {f : Nat → Value} {v : Value} (h : Laid A Ak lo k f) (hlo : lo ≤ k) (hk : k < Ak.slots.size) (hv : v = f k) : Laid A (Ak.setSlot k v) lo (k + 1) f := by
  refine ⟨h.1, h.2.1, by simpa [Cell.setSlot] using h.2.2.1, fun i => ?_⟩
  by_cases e : k = i
  · subst e; rw [Cell.slots_setSlot_self v hk, if_pos (by omega), hv]
  · rw [Cell.slots_setSlot_ne v e, h.2.2.2 i]
    by_cases q : lo ≤ i ∧ i < k
    · rw [if_pos q, if_pos (by omega)]
    · rw [if_neg q, if_neg (by omega)]
def U16 : String := "java/lang/StringUTF16"
namespace Cmp5
def yN : MethodName := ⟨"java/lang/StringUTF16", "compress", "([CI[BII)I"⟩
abbrev yB : ByteArray := jdk_52_method_21_code
theorem d0 : decode yB 0 = .ok (.iconst 0, 1) := by decide +kernel
theorem d1 : decode yB 1 = .ok (.istore 5, 2) := by decide +kernel
theorem d3 : decode yB 3 = .ok (.iload 5, 2) := by decide +kernel
theorem d5 : decode yB 5 = .ok (.iload 4, 2) := by decide +kernel
theorem d7 : decode yB 7 = .ok (.if_icmp (.ge) 37, 3) := by decide +kernel
theorem d10 : decode yB 10 = .ok (.aload_n 0, 1) := by decide +kernel
theorem d11 : decode yB 11 = .ok (.iload_n 1, 1) := by decide +kernel
theorem d12 : decode yB 12 = .ok (.caload, 1) := by decide +kernel
theorem d13 : decode yB 13 = .ok (.istore 6, 2) := by decide +kernel
theorem d15 : decode yB 15 = .ok (.iload 6, 2) := by decide +kernel
theorem d17 : decode yB 17 = .ok (.sipush 255, 3) := by decide +kernel
theorem d20 : decode yB 20 = .ok (.if_icmp (.le) 6, 3) := by decide +kernel
theorem d26 : decode yB 26 = .ok (.aload_n 2, 1) := by decide +kernel
theorem d27 : decode yB 27 = .ok (.iload_n 3, 1) := by decide +kernel
theorem d28 : decode yB 28 = .ok (.iload 6, 2) := by decide +kernel
theorem d30 : decode yB 30 = .ok (.i2b, 1) := by decide +kernel
theorem d31 : decode yB 31 = .ok (.bastore, 1) := by decide +kernel
theorem d32 : decode yB 32 = .ok (.iinc 1 1, 3) := by decide +kernel
theorem d35 : decode yB 35 = .ok (.iinc 3 1, 3) := by decide +kernel
theorem d38 : decode yB 38 = .ok (.iinc 5 1, 3) := by decide +kernel
theorem d41 : decode yB 41 = .ok (.goto (-38), 3) := by decide +kernel
theorem d44 : decode yB 44 = .ok (.iload 4, 2) := by decide +kernel
theorem d46 : decode yB 46 = .ok (.ireturn, 1) := by decide +kernel
def site : List Cond := []
def tab : Cond := tabOf yN yB 7 (some .int) site
def P (b : Addr) (A : Cell) (d : Addr) (B : Cell) (o q len : Nat) (args : Array Value) (s : State) : Prop := args = #[.ref b, .int (Int32.ofNat o), .ref d, .int (Int32.ofNat q), .int (Int32.ofNat len)] ∧ Ch b A s ∧ Arr .byte d B s ∧ b ≠ d ∧ o + len ≤ A.slots.size ∧ q + len ≤ B.slots.size ∧ ∀ i, i < len → ¬ 255 < cv A (o + i)
def E (b : Addr) (A : Cell) (d : Addr) (B : Cell) (o q len : Nat) (r : Option Value) (s u : State) : Prop := r = some (.int (Int32.ofNat len)) ∧ ∃ B', Put d B' s u ∧ Laid B B' q (q + len) (fun j => Value.int (lo8 (cv A (o + (j - q)))))
/-- no char of the range above 255: len; the places written hold each char's low byte -/
theorem law (l : Launch) (b : Addr) (A : Cell) (d : Addr) (B : Cell) (o q len : Nat) : Law l yN 5 5 0 0 yB 7 (some .int) site (P b A d B o q len) (E b A d B o q len) (copyLocs d q len) 0 0 := by
  refine Law.of_walk (plainFor_of_name (by decide +kernel)) (by decide +kernel) (by decide +kernel) (by decide) (fun _ _ h => by rw [h.1]; rfl) (fun _ U U' hal hh h => ⟨h.1, h.2.1.mv hal hh, h.2.2.1.mv hal hh, h.2.2.2⟩) (fun r U U' V V' h1 hal h2 h => ⟨h.1, h.2.elim fun B' q => ⟨B', q.1.mv h1 h2, q.2⟩⟩) ?_
  intro p e s m args below meth c s₁ X0 hexec hbytes hml hret hlk hnm hown hh0 W hP
  obtain ⟨rfl, hA, hB, hne, l1, l2, hp⟩ := hP
  have c1 : Steps p.tables e below (s₁.setTop (entryFrame m #[.ref b, .int (Int32.ofNat o), .ref d, .int (Int32.ofNat q), .int (Int32.ofNat len)] 7)) (s₁.setTop (mkF m 0 #[.val (.ref b), .val (.int (Int32.ofNat o)), .val (.ref d), .val (.int (Int32.ofNat q)), .val (.int (Int32.ofNat len)), .unset, .unset] [])) := entry rfl
  have hA0 := hA.1.mv X0.warmed.alike hh0
  have hB0 := hB.mv X0.warmed.alike hh0
  have a31 := hA.1.2.2.2
  have c2 : Steps p.tables e below (s₁.setTop (entryFrame m #[.ref b, .int (Int32.ofNat o), .ref d, .int (Int32.ofNat q), .int (Int32.ofNat len)] 7)) (s₁.setTop (mkF m 3 #[.val (.ref b), .val (.int (Int32.ofNat o)), .val (.ref d), .val (.int (Int32.ofNat q)), .val (.int (Int32.ofNat len)), .val (.int 0), .unset] [])) := c1.trans (by
    refine iconstV X0.here hexec rfl 0 (hb hbytes d0) (by decide) ?_
    refine XS.istore X0.here hexec rfl (hb hbytes d1) rfl rfl ?_
    exact Steps.refl _)
  have loop : ∀ (r i : Nat), i + r = len → ∀ (z : Slot), (z = .unset ∨ ∃ w, z = .val w ∧ w.category = 1) → ∀ (Tl : State) (Bk : Cell), Stand p l e { frames := 0, locals := 0, cells := 0, slots := 0 } s m #[.ref b, .int (Int32.ofNat o), .ref d, .int (Int32.ofNat q), .int (Int32.ofNat len)] below meth c Tl ([] ++ copyLocs d q i) 0 0 → Put d Bk s₁ Tl → Laid B Bk q (q + i) (fun j => Value.int (lo8 (cv A (o + (j - q))))) →
      Steps p.tables e below (s₁.setTop (entryFrame m #[.ref b, .int (Int32.ofNat o), .ref d, .int (Int32.ofNat q), .int (Int32.ofNat len)] 7)) (Tl.setTop (mkF m 3 #[.val (.ref b), .val (.int (Int32.ofNat (o + i))), .val (.ref d), .val (.int (Int32.ofNat (q + i))), .val (.int (Int32.ofNat len)), .val (.int (Int32.ofNat i)), z] [])) → ∃ (T' : State) (B' : Cell) (z' : Slot), Stand p l e { frames := 0, locals := 0, cells := 0, slots := 0 } s m #[.ref b, .int (Int32.ofNat o), .ref d, .int (Int32.ofNat q), .int (Int32.ofNat len)] below meth c T' ([] ++ copyLocs d q len) 0 0 ∧ Put d B' s₁ T' ∧ Laid B B' q (q + len) (fun j => Value.int (lo8 (cv A (o + (j - q))))) ∧
      Steps p.tables e below (s₁.setTop (entryFrame m #[.ref b, .int (Int32.ofNat o), .ref d, .int (Int32.ofNat q), .int (Int32.ofNat len)] 7)) (T'.setTop (mkF m 3 #[.val (.ref b), .val (.int (Int32.ofNat (o + len))), .val (.ref d), .val (.int (Int32.ofNat (q + len))), .val (.int (Int32.ofNat len)), .val (.int (Int32.ofNat len)), z'] [])) := by
    intro r
    induction r with
    | zero =>
      intro i hi z hz Tl Bk Xl pl fl cl
      have hil : i = len := by omega
      rw [hil] at Xl fl cl
      exact ⟨Tl, Bk, z, Xl, pl, fl, cl⟩
    | succ r ih =>
      intro i hi z hz Tl Bk Xl pl fl cl
      have all := X0.warmed.alike.symm.trans Xl.warmed.alike
      have hAl := hA0.keep all (pl.other hne hA0.1)
      have hBk := hB0.like all pl.1 fl.1 fl.2.1 fl.2.2.1
      have hlt : q + i < Bk.slots.size := by rw [fl.2.2.1]; omega
      have c3 : Steps p.tables e below (s₁.setTop (entryFrame m #[.ref b, .int (Int32.ofNat o), .ref d, .int (Int32.ofNat q), .int (Int32.ofNat len)] 7)) (Tl.setTop (mkF m 12 #[.val (.ref b), .val (.int (Int32.ofNat (o + i))), .val (.ref d), .val (.int (Int32.ofNat (q + i))), .val (.int (Int32.ofNat len)), .val (.int (Int32.ofNat i)), z] [.int (Int32.ofNat (o + i)), .ref b])) := cl.trans (by
        refine XS.iload Xl.here hexec rfl (hb hbytes d3) rfl ?_
        refine XS.iload Xl.here hexec rfl (hb hbytes d5) rfl ?_
        refine XS.icmpNo Xl.here hexec rfl (hb hbytes d7) rfl (ii_ge_f (lt32 (by omega) (by omega))) ?_
        refine XS.aloadN Xl.here hexec rfl (hb hbytes d10) rfl rfl ?_
        refine XS.iloadN Xl.here hexec rfl (hb hbytes d11) rfl ?_
        exact Steps.refl _)
      have c4 : Steps p.tables e below (s₁.setTop (entryFrame m #[.ref b, .int (Int32.ofNat o), .ref d, .int (Int32.ofNat q), .int (Int32.ofNat len)] 7)) (Tl.setTop (mkF m 13 #[.val (.ref b), .val (.int (Int32.ofNat (o + i))), .val (.ref d), .val (.int (Int32.ofNat (q + i))), .val (.int (Int32.ofNat len)), .val (.int (Int32.ofNat i)), z] [.int (cv A (o + i))])) := c3.trans (by
        refine Xl.aget hexec hAl rfl (hA.get (i := o + i) (by omega)) rfl rfl (hb hbytes d12) ?_
        exact Steps.refl _)
      have c5 : Steps p.tables e below (s₁.setTop (entryFrame m #[.ref b, .int (Int32.ofNat o), .ref d, .int (Int32.ofNat q), .int (Int32.ofNat len)] 7)) (Tl.setTop (mkF m 15 #[.val (.ref b), .val (.int (Int32.ofNat (o + i))), .val (.ref d), .val (.int (Int32.ofNat (q + i))), .val (.int (Int32.ofNat len)), .val (.int (Int32.ofNat i)), .val (.int (cv A (o + i)))] [])) := c4.trans (by
        refine XS.istoreS Xl.here hexec rfl (hb hbytes d13) rfl rfl hz ?_
        exact Steps.refl _)
      have c6 : Steps p.tables e below (s₁.setTop (entryFrame m #[.ref b, .int (Int32.ofNat o), .ref d, .int (Int32.ofNat q), .int (Int32.ofNat len)] 7)) (Tl.setTop (mkF m 31 #[.val (.ref b), .val (.int (Int32.ofNat (o + i))), .val (.ref d), .val (.int (Int32.ofNat (q + i))), .val (.int (Int32.ofNat len)), .val (.int (Int32.ofNat i)), .val (.int (cv A (o + i)))] [.int (lo8 (cv A (o + i))), .int (Int32.ofNat (q + i)), .ref d])) := c5.trans (by
        refine XS.iload Xl.here hexec rfl (hb hbytes d15) rfl ?_
        refine sipushV Xl.here hexec rfl 255 (hb hbytes d17) (by decide) ?_
        refine XS.icmpYes Xl.here hexec rfl (pc0 := 20) rfl (hb hbytes d20) rfl (ii_le_t (hp i (by omega))) (by decide) rfl ?_
        refine XS.aloadN Xl.here hexec rfl (hb hbytes d26) rfl rfl ?_
        refine XS.iloadN Xl.here hexec rfl (hb hbytes d27) rfl ?_
        refine XS.iload Xl.here hexec rfl (hb hbytes d28) rfl ?_
        refine i2b Xl.here hexec rfl (hb hbytes d30) rfl ?_
        exact Steps.refl _)
      obtain ⟨T7, X7, p7, st7⟩ := Xl.aput hexec hBk rfl hlt rfl (fits_lo8 (cv A (o + i))) (g := (mkF m 31 #[.val (.ref b), .val (.int (Int32.ofNat (o + i))), .val (.ref d), .val (.int (Int32.ofNat (q + i))), .val (.int (Int32.ofNat len)), .val (.int (Int32.ofNat i)), .val (.int (cv A (o + i)))] [.int (lo8 (cv A (o + i))), .int (Int32.ofNat (q + i)), .ref d])) rfl (rest := []) rfl (hb hbytes d31)
      have c8 : Steps p.tables e below (s₁.setTop (entryFrame m #[.ref b, .int (Int32.ofNat o), .ref d, .int (Int32.ofNat q), .int (Int32.ofNat len)] 7)) (T7.setTop (mkF m 32 #[.val (.ref b), .val (.int (Int32.ofNat (o + i))), .val (.ref d), .val (.int (Int32.ofNat (q + i))), .val (.int (Int32.ofNat len)), .val (.int (Int32.ofNat i)), .val (.int (cv A (o + i)))] [])) := c6.trans (st7 _ (Steps.refl _))
      have c9 : Steps p.tables e below (s₁.setTop (entryFrame m #[.ref b, .int (Int32.ofNat o), .ref d, .int (Int32.ofNat q), .int (Int32.ofNat len)] 7)) (T7.setTop (mkF m 3 #[.val (.ref b), .val (.int (Int32.ofNat (o + i) + 1)), .val (.ref d), .val (.int (Int32.ofNat (q + i) + 1)), .val (.int (Int32.ofNat len)), .val (.int (Int32.ofNat i + 1)), .val (.int (cv A (o + i)))] [])) := c8.trans (by
        refine iincV X7.here hexec rfl 1 (hb hbytes d32) (by decide) rfl rfl ?_
        refine iincV X7.here hexec rfl 1 (hb hbytes d35) (by decide) rfl rfl ?_
        refine iincV X7.here hexec rfl 1 (hb hbytes d38) (by decide) rfl rfl ?_
        refine XS.goto X7.here hexec rfl (pc0 := 41) rfl (hb hbytes d41) (by decide) rfl ?_
        exact Steps.refl _)
      have c10 : Steps p.tables e below (s₁.setTop (entryFrame m #[.ref b, .int (Int32.ofNat o), .ref d, .int (Int32.ofNat q), .int (Int32.ofNat len)] 7)) (T7.setTop (mkF m 3 #[.val (.ref b), .val (.int (Int32.ofNat (o + (i + 1)))), .val (.ref d), .val (.int (Int32.ofNat (q + (i + 1)))), .val (.int (Int32.ofNat len)), .val (.int (Int32.ofNat (i + 1))), .val (.int (cv A (o + i)))] [])) := by
        have := c9
        rw [succ32, succ32, succ32] at this
        exact this
      exact ih (i + 1) (by omega) _ (Or.inr ⟨_, rfl, rfl⟩) T7 _ (by rw [copyLocs_step, ← List.append_assoc]; exact X7) (pl.trans p7) (fl.step (by omega) hlt (by simp)) c10
  obtain ⟨T9, B9, z9, X9, p9, f9, g9⟩ := loop len 0 (by omega) .unset (Or.inl rfl) s₁ B (by simpa [copyLocs] using X0) ⟨hB0.1, fun _ _ => rfl, rfl⟩ (Laid.zero _ _ _) c2
  have c11 : Steps p.tables e below (s₁.setTop (entryFrame m #[.ref b, .int (Int32.ofNat o), .ref d, .int (Int32.ofNat q), .int (Int32.ofNat len)] 7)) (T9.setTop (mkF m 46 #[.val (.ref b), .val (.int (Int32.ofNat (o + len))), .val (.ref d), .val (.int (Int32.ofNat (q + len))), .val (.int (Int32.ofNat len)), .val (.int (Int32.ofNat len)), z9] [.int (Int32.ofNat len)])) := g9.trans (by
    refine XS.iload X9.here hexec rfl (hb hbytes d3) rfl ?_
    refine XS.iload X9.here hexec rfl (hb hbytes d5) rfl ?_
    refine XS.icmpYes X9.here hexec rfl (pc0 := 7) rfl (hb hbytes d7) rfl (ii_ge_t (nlt32 (by omega) (Nat.le_refl _))) (by decide) rfl ?_
    refine XS.iload X9.here hexec rfl (hb hbytes d44) rfl ?_
    exact Steps.refl _)
  exact ⟨T9, some (.int (Int32.ofNat len)), _, _, _, X9, by simp, rfl, rfl, (fun h => by cases h), ⟨rfl, B9, p9.from hh0, f9⟩, fun fs hl => c11.trans (X9.ireturnOut hexec hret rfl (Or.inl rfl) (hb hbytes d46) hl)⟩
end Cmp5
namespace Cmp3
def yN : MethodName := ⟨"java/lang/StringUTF16", "compress", "([CII)[B"⟩
abbrev yB : ByteArray := jdk_52_method_16_code
theorem d0 : decode yB 0 = .ok (.iload_n 2, 1) := by decide +kernel
theorem d1 : decode yB 1 = .ok (.newarray .byte, 2) := by decide +kernel
theorem d3 : decode yB 3 = .ok (.astore_n 3, 1) := by decide +kernel
theorem d4 : decode yB 4 = .ok (.aload_n 0, 1) := by decide +kernel
theorem d5 : decode yB 5 = .ok (.iload_n 1, 1) := by decide +kernel
theorem d6 : decode yB 6 = .ok (.aload_n 3, 1) := by decide +kernel
theorem d7 : decode yB 7 = .ok (.iconst 0, 1) := by decide +kernel
theorem d8 : decode yB 8 = .ok (.iload_n 2, 1) := by decide +kernel
theorem d9 : decode yB 9 = .ok (.invokestatic 115, 3) := by decide +kernel
theorem d12 : decode yB 12 = .ok (.istore 4, 2) := by decide +kernel
theorem d14 : decode yB 14 = .ok (.iload 4, 2) := by decide +kernel
theorem d16 : decode yB 16 = .ok (.iload_n 2, 1) := by decide +kernel
theorem d17 : decode yB 17 = .ok (.if_icmp (.eq) 40, 3) := by decide +kernel
theorem d57 : decode yB 57 = .ok (.aload_n 3, 1) := by decide +kernel
theorem d58 : decode yB 58 = .ok (.areturn, 1) := by decide +kernel
def site : List Cond := [.arrayClass .byte, Cmp5.tab] ++ staticW U16 115 Cmp5.yN
def tab : Cond := tabOf yN yB 6 (some (.array .byte)) site
def P (b : Addr) (A : Cell) (o len : Nat) (args : Array Value) (s : State) : Prop := args = #[.ref b, .int (Int32.ofNat o), .int (Int32.ofNat len)] ∧ Ch b A s ∧ o + len ≤ A.slots.size ∧ len ≤ 536870912 ∧ ∀ i, i < len → ¬ 255 < cv A (o + i)
def E (b : Addr) (A : Cell) (o len : Nat) (r : Option Value) (s u : State) : Prop := NewArr .byte "[B" len (fun j => .int (lo8 (cv A (o + j)))) r s u ∧ u.heap.size = s.heap.size + 1
/-- no char of the range above 255: a new byte[] of their low bytes -/
theorem law (l : Launch) (b : Addr) (A : Cell) (o len : Nat) : Law l yN 3 3 1 18 yB 6 (some (.array .byte)) site (P b A o len) (E b A o len) [] 1 len := by
  refine Law.of_walk (plainFor_of_name (by decide +kernel)) (by decide +kernel) (by decide +kernel) (by decide) (fun _ _ h => by rw [h.1]; rfl) (fun _ U U' hal hh h => ⟨h.1, h.2.1.mv hal hh, h.2.2⟩) (fun r U U' V V' h1 hal h2 h => ⟨NewArr.mv r U U' V V' h1 hal h2 h.1, by rw [h1, h2]; exact h.2⟩) ?_
  intro p e s m args below meth c s₁ X0 hexec hbytes hml hret hlk hnm hown hh0 W hP
  obtain ⟨rfl, hA, l1, l2, hp⟩ := hP
  have a31 := hA.1.2.2.2
  have c1 : Steps p.tables e below (s₁.setTop (entryFrame m #[.ref b, .int (Int32.ofNat o), .int (Int32.ofNat len)] 6)) (s₁.setTop (mkF m 0 #[.val (.ref b), .val (.int (Int32.ofNat o)), .val (.int (Int32.ofNat len)), .unset, .unset, .unset] [])) := entry rfl
  have c2 : Steps p.tables e below (s₁.setTop (entryFrame m #[.ref b, .int (Int32.ofNat o), .int (Int32.ofNat len)] 6)) (s₁.setTop (mkF m 1 #[.val (.ref b), .val (.int (Int32.ofNat o)), .val (.int (Int32.ofNat len)), .unset, .unset, .unset] [.int (Int32.ofNat len)])) := c1.trans (by
    refine XS.iloadN X0.here hexec rfl (hb hbytes d0) rfl ?_
    exact Steps.refl _)
  obtain ⟨T3, B3, X3, ba3, bs3, bv3, bh3, bf3, st3⟩ := X0.anew hexec (atype := .byte) (wk W (.arrayClass .byte)) rfl (by show len * 1 ≤ _; omega) (by omega) (g := (mkF m 1 #[.val (.ref b), .val (.int (Int32.ofNat o)), .val (.int (Int32.ofNat len)), .unset, .unset, .unset] [.int (Int32.ofNat len)])) rfl (hb hbytes d1) (rest := []) rfl (Nat.le_refl _) (by show 0 + len ≤ len; omega)
  rw [hh0] at ba3 st3
  have kp3 : XT.Kept s T3 := (XT.Kept.of_eq hh0).push bh3
  have hA3 := hA.keep X3.warmed.alike (kp3 _ _ hA.1.1)
  have hne : b ≠ s.heap.size := hA.1.ne
  have c4 : Steps p.tables e below (s₁.setTop (entryFrame m #[.ref b, .int (Int32.ofNat o), .int (Int32.ofNat len)] 6)) (T3.setTop (mkF m 3 #[.val (.ref b), .val (.int (Int32.ofNat o)), .val (.int (Int32.ofNat len)), .unset, .unset, .unset] [.ref s.heap.size])) := c2.trans (st3 _ (Steps.refl _))
  have c5 : Steps p.tables e below (s₁.setTop (entryFrame m #[.ref b, .int (Int32.ofNat o), .int (Int32.ofNat len)] 6)) (T3.setTop (mkF m 9 #[.val (.ref b), .val (.int (Int32.ofNat o)), .val (.int (Int32.ofNat len)), .val (.ref s.heap.size), .unset, .unset] [.int (Int32.ofNat len), .int 0, .ref s.heap.size, .int (Int32.ofNat o), .ref b])) := c4.trans (by
    refine XS.astoreN X3.here hexec rfl (hb hbytes d3) rfl rfl rfl ?_
    refine XS.aloadN X3.here hexec rfl (hb hbytes d4) rfl rfl ?_
    refine XS.iloadN X3.here hexec rfl (hb hbytes d5) rfl ?_
    refine XS.aloadN X3.here hexec rfl (hb hbytes d6) rfl rfl ?_
    refine iconstV X3.here hexec rfl 0 (hb hbytes d7) (by decide) ?_
    refine XS.iloadN X3.here hexec rfl (hb hbytes d8) rfl ?_
    exact Steps.refl _)
  obtain ⟨v6, T6, X6, E6, g6⟩ := X3.callS hexec (Cmp5.law l b A s.heap.size B3 o 0 len) hown (wks W (staticW U16 115 Cmp5.yN)) (wk W Cmp5.tab) (W := 0) (Nat.le_of_ble_eq_true rfl) (Nat.le_of_ble_eq_true rfl) (Nat.le_refl _) (by show 0 + len + 0 ≤ len; omega) (g := (mkF m 9 #[.val (.ref b), .val (.int (Int32.ofNat o)), .val (.int (Int32.ofNat len)), .val (.ref s.heap.size), .unset, .unset] [.int (Int32.ofNat len), .int (Int32.ofNat 0), .ref s.heap.size, .int (Int32.ofNat o), .ref b])) rfl (by rw [hml]; rfl) c5 (argsL := [.ref b, .int (Int32.ofNat o), .ref s.heap.size, .int (Int32.ofNat 0), .int (Int32.ofNat len)]) (rest := []) rfl rfl (by show 2 * 0 + 0 ≤ _; decide) (hb hbytes d9) (⟨rfl, hA3, ba3, hne, l1, by rw [bs3]; simp, hp⟩)
  obtain ⟨rfl, B6, p6, f6⟩ := E6
  have c7 : Steps p.tables e below (s₁.setTop (entryFrame m #[.ref b, .int (Int32.ofNat o), .int (Int32.ofNat len)] 6)) (T6.setTop (mkF m 12 #[.val (.ref b), .val (.int (Int32.ofNat o)), .val (.int (Int32.ofNat len)), .val (.ref s.heap.size), .unset, .unset] [.int (Int32.ofNat len)])) := g6
  have c8 : Steps p.tables e below (s₁.setTop (entryFrame m #[.ref b, .int (Int32.ofNat o), .int (Int32.ofNat len)] 6)) (T6.setTop (mkF m 58 #[.val (.ref b), .val (.int (Int32.ofNat o)), .val (.int (Int32.ofNat len)), .val (.ref s.heap.size), .val (.int (Int32.ofNat len)), .unset] [.ref s.heap.size])) := c7.trans (by
    refine XS.istore X6.here hexec rfl (hb hbytes d12) rfl rfl ?_
    refine XS.iload X6.here hexec rfl (hb hbytes d14) rfl ?_
    refine XS.iloadN X6.here hexec rfl (hb hbytes d16) rfl ?_
    refine XS.icmpYes X6.here hexec rfl (pc0 := 17) rfl (hb hbytes d17) rfl (ii_eq_t rfl) (by decide) rfl ?_
    refine XS.aloadN X6.here hexec rfl (hb hbytes d57) rfl rfl ?_
    exact Steps.refl _)
  have X8 := X6.wide (L' := []) (cells' := 1) (slots' := len) (fun x hx hlt => by
    simp only [List.nil_append, copyLocs, List.mem_map, List.mem_range] at hx
    obtain ⟨i, -, rfl⟩ := hx
    exact absurd hlt (Nat.lt_irrefl _)) (Nat.le_refl _) (by omega)
  exact ⟨T6, some (.ref s.heap.size), _, _, _, X8, rfl, rfl, rfl, (fun h => by cases h), ⟨⟨rfl, B6, ba3.like (X3.warmed.alike.symm.trans X6.warmed.alike) p6.1 f6.1 f6.2.1 f6.2.2.1, f6.2.1.trans bv3, by rw [X6.warmed.alike.findClass, f6.1]; exact bf3, by rw [f6.2.2.1, bs3]; simp, fun j hj => by rw [f6.2.2.2 j, if_pos (by omega)]; rfl, kp3.put p6 (Nat.le_refl _)⟩, by rw [p6.2.2, bh3, hh0]; simp⟩, fun fs hl => c8.trans (X8.areturnOut hexec rfl hret rfl (hb hbytes d58) hl)⟩
end Cmp3
namespace CodL
def yN : MethodName := ⟨"java/lang/StringUTF16", "coderFromArrayLen", "([BI)B"⟩
abbrev yB : ByteArray := jdk_52_method_15_code
theorem d0 : decode yB 0 = .ok (.iload_n 1, 1) := by decide +kernel
theorem d1 : decode yB 1 = .ok (.aload_n 0, 1) := by decide +kernel
theorem d2 : decode yB 2 = .ok (.arraylength, 1) := by decide +kernel
theorem d3 : decode yB 3 = .ok (.isub, 1) := by decide +kernel
theorem d4 : decode yB 4 = .ok (.bipush 31, 2) := by decide +kernel
theorem d6 : decode yB 6 = .ok (.iushr, 1) := by decide +kernel
theorem d7 : decode yB 7 = .ok (.i2b, 1) := by decide +kernel
theorem d8 : decode yB 8 = .ok (.ireturn, 1) := by decide +kernel
def site : List Cond := []
def tab : Cond := tabOf yN yB 2 (some .byte) site
def P (d : Addr) (B : Cell) (args : Array Value) (s : State) : Prop := args = #[.ref d, .int (Int32.ofNat B.slots.size)] ∧ Arr .byte d B s
def E (r : Option Value) (s u : State) : Prop := XT.PureE (some (.int 0)) r s u
/-- an array as long as the number of chars: LATIN1 -/
theorem law (l : Launch) (d : Addr) (B : Cell) : Law l yN 2 2 0 0 yB 2 (some .byte) site (P d B) E [] 0 0 := by
  refine Law.of_walk (plainFor_of_name (by decide +kernel)) (by decide +kernel) (by decide +kernel) (by decide) (fun _ _ h => by rw [h.1]; rfl) (fun _ U U' hal hh h => ⟨h.1, h.2.mv hal hh⟩) (fun r U U' V V' h1 hal h2 h => XT.PureE.mv r U U' V V' h1 hal h2 h) ?_
  intro p e s m args below meth c s₁ X0 hexec hbytes hml hret hlk hnm hown hh0 W hP
  obtain ⟨rfl, hB⟩ := hP
  have hB0 := hB.mv X0.warmed.alike hh0
  have c1 : Steps p.tables e below (s₁.setTop (entryFrame m #[.ref d, .int (Int32.ofNat B.slots.size)] 2)) (s₁.setTop (mkF m 0 #[.val (.ref d), .val (.int (Int32.ofNat B.slots.size))] [])) := entry rfl
  have c2 : Steps p.tables e below (s₁.setTop (entryFrame m #[.ref d, .int (Int32.ofNat B.slots.size)] 2)) (s₁.setTop (mkF m 2 #[.val (.ref d), .val (.int (Int32.ofNat B.slots.size))] [.ref d, .int (Int32.ofNat B.slots.size)])) := c1.trans (by
    refine XS.iloadN X0.here hexec rfl (hb hbytes d0) rfl ?_
    refine XS.aloadN X0.here hexec rfl (hb hbytes d1) rfl rfl ?_
    exact Steps.refl _)
  have c3 : Steps p.tables e below (s₁.setTop (entryFrame m #[.ref d, .int (Int32.ofNat B.slots.size)] 2)) (s₁.setTop (mkF m 8 #[.val (.ref d), .val (.int (Int32.ofNat B.slots.size))] [.int (lo8 (ushr (Int32.ofNat B.slots.size - Int32.ofNat B.slots.size) 31))])) := c2.trans (by
    refine X0.alen hexec hB0 rfl rfl (hb hbytes d2) ?_
    refine XS.isub X0.here hexec rfl (hb hbytes d3) rfl ?_
    refine bipushV X0.here hexec rfl 31 (hb hbytes d4) (by decide) ?_
    refine iushr X0.here hexec rfl (hb hbytes d6) rfl ?_
    refine i2b X0.here hexec rfl (hb hbytes d7) rfl ?_
    exact Steps.refl _)
  have e0 : lo8 (ushr (Int32.ofNat B.slots.size - Int32.ofNat B.slots.size) 31) = 0 := by rw [Int32.sub_self]; decide
  rw [e0] at c3
  exact ⟨s₁, some (.int 0), _, _, _, X0, rfl, rfl, rfl, (fun h => by cases h), ⟨rfl, hh0⟩, fun fs hl => c3.trans (X0.ireturnOut hexec hret rfl (Or.inr (Or.inr (Or.inl rfl))) (hb hbytes d8) hl)⟩
end CodL
/-- the String at a is Latin-1 over a new byte[] (the heap's one new cell): the low bytes of the len chars of A from o on; every cell but a is kept -/
def Got (a : Addr) (D : Cell) (fV fC : Field) (A : Cell) (o len : Nat) (r : Option Value) (s u : State) : Prop := r = none ∧ ∃ D' V : Cell, Blank "java/lang/String" a D' u ∧ Same D D' [fV.slot, fC.slot] ∧ D'.slots[fV.slot]? = some (.ref s.heap.size) ∧ D'.slots[fC.slot]? = some (.int 0) ∧ Arr .byte s.heap.size V u ∧ V.vm = .none ∧ u.vm.findClass "[B" = some V.cls ∧ V.slots.size = len ∧ (∀ j, j < len → V.slots[j]? = some (.int (lo8 (cv A (o + j))))) ∧ (∀ (y : Addr) (c : Cell), y ≠ a → s.heap[y]? = some c → u.heap[y]? = some c) ∧ u.heap.size = s.heap.size + 1
theorem Got.mv {a : Addr} {D A : Cell} {fV fC : Field} {o len : Nat} : ∀ r (U U' V V' : State), U'.heap = U.heap → V.vm.Alike V'.vm → V'.heap = V.heap → Got a D fV fC A o len r U V → Got a D fV fC A o len r U' V' :=
  fun r U U' V V' h1 hal h2 ⟨e0, D', X, a1, a2, a3, a4, a5, a6, a7, a8, a9, a10, a11⟩ => ⟨e0, D', X, a1.mv hal h2, a2, by rw [h1]; exact a3, a4, by rw [h1]; exact a5.mv hal h2, a6, by rw [hal.findClass]; exact a7, a8, a9, by rw [h1, h2]; exact a10, by rw [h1, h2]; exact a11⟩
namespace New4
def yN : MethodName := ⟨"java/lang/String", "<init>", "([CIILjava/lang/Void;)V"⟩
abbrev yB : ByteArray := jdk_42_method_149_code
theorem d0 : decode yB 0 = .ok (.aload_n 0, 1) := by decide +kernel
theorem d1 : decode yB 1 = .ok (.invokespecial 1, 3) := by decide +kernel
theorem d4 : decode yB 4 = .ok (.iload_n 3, 1) := by decide +kernel
theorem d5 : decode yB 5 = .ok (.ifCond (.ne) 22, 3) := by decide +kernel
theorem d27 : decode yB 27 = .ok (.getstatic 38, 3) := by decide +kernel
theorem d30 : decode yB 30 = .ok (.ifCond (.eq) 28, 3) := by decide +kernel
theorem d33 : decode yB 33 = .ok (.aload_n 1, 1) := by decide +kernel
theorem d34 : decode yB 34 = .ok (.iload_n 2, 1) := by decide +kernel
theorem d35 : decode yB 35 = .ok (.iload_n 3, 1) := by decide +kernel
theorem d36 : decode yB 36 = .ok (.invokestatic 177, 3) := by decide +kernel
theorem d39 : decode yB 39 = .ok (.astore 5, 2) := by decide +kernel
theorem d41 : decode yB 41 = .ok (.aload_n 0, 1) := by decide +kernel
theorem d42 : decode yB 42 = .ok (.aload 5, 2) := by decide +kernel
theorem d44 : decode yB 44 = .ok (.iload_n 3, 1) := by decide +kernel
theorem d45 : decode yB 45 = .ok (.invokestatic 47, 3) := by decide +kernel
theorem d48 : decode yB 48 = .ok (.putfield 15, 3) := by decide +kernel
theorem d51 : decode yB 51 = .ok (.aload_n 0, 1) := by decide +kernel
theorem d52 : decode yB 52 = .ok (.aload 5, 2) := by decide +kernel
theorem d54 : decode yB 54 = .ok (.putfield 9, 3) := by decide +kernel
theorem d57 : decode yB 57 = .ok (.return_, 1) := by decide +kernel
def site : List Cond := [.fieldLink "java/lang/String" 38 "java/lang/String" "COMPACT_STRINGS" "Z", Cmp3.tab, CodL.tab, .laysFinal "java/lang/String" "java/lang/String" "value" "[B", .fieldLink "java/lang/String" 9 "java/lang/String" "value" "[B", .laysFinal "java/lang/String" "java/lang/String" "coder" "B", .fieldLink "java/lang/String" 15 "java/lang/String" "coder" "B"] ++ objW "java/lang/String" 1 ++ staticW "java/lang/String" 177 Cmp3.yN ++ staticW "java/lang/String" 47 CodL.yN
def tab : Cond := tabOf yN yB 6 none site
def P (a : Addr) (D : Cell) (fV fC : Field) (b : Addr) (A : Cell) (z : Int32) (o len : Nat) (args : Array Value) (s : State) : Prop := args = #[.ref a, .ref b, .int (Int32.ofNat o), .int (Int32.ofNat len), .null] ∧ Blank "java/lang/String" a D s ∧ Found "java/lang/String" "value" "[B" fV s ∧ Found "java/lang/String" "coder" "B" fC s ∧ Ch b A s ∧ StaticIs s "java/lang/String" "COMPACT_STRINGS" "Z" (.int z) ∧ ¬ z = 0 ∧ 0 < len ∧ o + len ≤ A.slots.size ∧ len ≤ 536870912 ∧ ∀ i, i < len → ¬ 255 < cv A (o + i)
def E (a : Addr) (D : Cell) (fV fC : Field) (A : Cell) (o len : Nat) (r : Option Value) (s u : State) : Prop := Got a D fV fC A o len r s u
/-- len > 0, no char of the range above 255: a Latin-1 String of their low bytes -/
theorem law (l : Launch) (a : Addr) (D : Cell) (fV fC : Field) (b : Addr) (A : Cell) (z : Int32) (o len : Nat) : Law l yN 5 4 2 35 yB 6 none site (P a D fV fC b A z o len) (E a D fV fC A o len) [⟨a, fC.slot⟩, ⟨a, fV.slot⟩] 1 len := by
  refine Law.of_walk (plainFor_of_name (by decide +kernel)) (by decide +kernel) (by decide +kernel) (by decide) (fun _ _ h => by rw [h.1]; rfl) (fun _ U U' hal hh h => ⟨h.1, h.2.1.mv hal hh, h.2.2.1.al hal, h.2.2.2.1.al hal, h.2.2.2.2.1.mv hal hh, h.2.2.2.2.2.1.there hal hh, h.2.2.2.2.2.2⟩) (fun r U U' V V' h1 hal h2 h => Got.mv r U U' V V' h1 hal h2 h) ?_
  intro p e s m args below meth c s₁ X0 hexec hbytes hml hret hlk hnm hown hh0 W hP
  obtain ⟨rfl, hB, f1, f2, hA, s1, hz, l0, l1, l2, hp⟩ := hP
  have a31 := hA.1.2.2.2
  have c1 : Steps p.tables e below (s₁.setTop (entryFrame m #[.ref a, .ref b, .int (Int32.ofNat o), .int (Int32.ofNat len), .null] 6)) (s₁.setTop (mkF m 0 #[.val (.ref a), .val (.ref b), .val (.int (Int32.ofNat o)), .val (.int (Int32.ofNat len)), .val .null, .unset] [])) := entry rfl
  have c2 : Steps p.tables e below (s₁.setTop (entryFrame m #[.ref a, .ref b, .int (Int32.ofNat o), .int (Int32.ofNat len), .null] 6)) (s₁.setTop (mkF m 1 #[.val (.ref a), .val (.ref b), .val (.int (Int32.ofNat o)), .val (.int (Int32.ofNat len)), .val .null, .unset] [.ref a])) := c1.trans (by
    refine XS.aloadN X0.here hexec rfl (hb hbytes d0) rfl rfl ?_
    exact Steps.refl _)
  obtain ⟨T3, X3, q3, st3⟩ := X0.oinit hexec hown (wks W (objW "java/lang/String" 1)) (g := (mkF m 1 #[.val (.ref a), .val (.ref b), .val (.int (Int32.ofNat o)), .val (.int (Int32.ofNat len)), .val .null, .unset] [.ref a])) rfl (by rw [hml]; rfl) (rest := []) rfl (hb hbytes d1) (W := 0) (by show 2 * 0 + 0 ≤ _; decide) (Nat.le_of_ble_eq_true rfl) (Nat.le_of_ble_eq_true rfl)
  have hh3 := q3.trans hh0
  have c4 : Steps p.tables e below (s₁.setTop (entryFrame m #[.ref a, .ref b, .int (Int32.ofNat o), .int (Int32.ofNat len), .null] 6)) (T3.setTop (mkF m 27 #[.val (.ref a), .val (.ref b), .val (.int (Int32.ofNat o)), .val (.int (Int32.ofNat len)), .val .null, .unset] [])) := (c2.trans (st3 _ (Steps.refl _))).trans (by
    refine XS.iloadN X3.here hexec rfl (hb hbytes d4) rfl ?_
    refine XS.ifYes X3.here hexec rfl (pc0 := 5) rfl (hb hbytes d5) rfl (i0_ne_t (nz32 (by omega) l0)) (by decide) rfl ?_
    exact Steps.refl _)
  obtain ⟨T5, X5, q5, st5⟩ := X3.sget hexec hown (wk W (.fieldLink "java/lang/String" 38 "java/lang/String" "COMPACT_STRINGS" "Z")) s1 (fun _ _ h => by rw [hh3]; exact h) (g := (mkF m 27 #[.val (.ref a), .val (.ref b), .val (.int (Int32.ofNat o)), .val (.int (Int32.ofNat len)), .val .null, .unset] [])) rfl (hb hbytes d27)
  have hh5 := q5.trans hh3
  have c6 : Steps p.tables e below (s₁.setTop (entryFrame m #[.ref a, .ref b, .int (Int32.ofNat o), .int (Int32.ofNat len), .null] 6)) (T5.setTop (mkF m 30 #[.val (.ref a), .val (.ref b), .val (.int (Int32.ofNat o)), .val (.int (Int32.ofNat len)), .val .null, .unset] [.int z])) := c4.trans (st5 _ (Steps.refl _))
  have c7 : Steps p.tables e below (s₁.setTop (entryFrame m #[.ref a, .ref b, .int (Int32.ofNat o), .int (Int32.ofNat len), .null] 6)) (T5.setTop (mkF m 36 #[.val (.ref a), .val (.ref b), .val (.int (Int32.ofNat o)), .val (.int (Int32.ofNat len)), .val .null, .unset] [.int (Int32.ofNat len), .int (Int32.ofNat o), .ref b])) := c6.trans (by
    refine XS.ifNo X5.here hexec rfl (hb hbytes d30) rfl (i0_eq_f hz) ?_
    refine XS.aloadN X5.here hexec rfl (hb hbytes d33) rfl rfl ?_
    refine XS.iloadN X5.here hexec rfl (hb hbytes d34) rfl ?_
    refine XS.iloadN X5.here hexec rfl (hb hbytes d35) rfl ?_
    exact Steps.refl _)
  obtain ⟨v8, T8, X8, E8, g8⟩ := X5.callS hexec (Cmp3.law l b A o len) hown (wks W (staticW "java/lang/String" 177 Cmp3.yN)) (wk W Cmp3.tab) (W := 0) (Nat.le_of_ble_eq_true rfl) (Nat.le_of_ble_eq_true rfl) (Nat.le_refl _) (by show 0 + len ≤ len; omega) (g := (mkF m 36 #[.val (.ref a), .val (.ref b), .val (.int (Int32.ofNat o)), .val (.int (Int32.ofNat len)), .val .null, .unset] [.int (Int32.ofNat len), .int (Int32.ofNat o), .ref b])) rfl (by rw [hml]; rfl) c7 (argsL := [.ref b, .int (Int32.ofNat o), .int (Int32.ofNat len)]) (rest := []) rfl rfl (by show 2 * 0 + 0 ≤ _; decide) (hb hbytes d36) (⟨rfl, hA.mv X5.warmed.alike hh5, l1, l2, hp⟩)
  obtain ⟨e8, z8⟩ := E8
  obtain ⟨rfl, N, n1, n2, n3, n4, n5, n6⟩ := NewArr.mv _ T5 s _ _ hh5.symm (Vm.Alike.refl _) rfl e8
  rw [hh5] at z8
  have hB1 := hB.keep X8.warmed.alike (n6 _ _ hB.1)
  have hne : s.heap.size ≠ a := (Nat.ne_of_lt (Array.getElem?_eq_some_iff.mp hB.1).1).symm
  have c9 : Steps p.tables e below (s₁.setTop (entryFrame m #[.ref a, .ref b, .int (Int32.ofNat o), .int (Int32.ofNat len), .null] 6)) (T8.setTop (mkF m 39 #[.val (.ref a), .val (.ref b), .val (.int (Int32.ofNat o)), .val (.int (Int32.ofNat len)), .val .null, .unset] [.ref s.heap.size])) := g8
  have c10 : Steps p.tables e below (s₁.setTop (entryFrame m #[.ref a, .ref b, .int (Int32.ofNat o), .int (Int32.ofNat len), .null] 6)) (T8.setTop (mkF m 45 #[.val (.ref a), .val (.ref b), .val (.int (Int32.ofNat o)), .val (.int (Int32.ofNat len)), .val .null, .val (.ref s.heap.size)] [.int (Int32.ofNat N.slots.size), .ref s.heap.size, .ref a])) := by
    have hc : Steps p.tables e below (s₁.setTop (entryFrame m #[.ref a, .ref b, .int (Int32.ofNat o), .int (Int32.ofNat len), .null] 6)) (T8.setTop (mkF m 45 #[.val (.ref a), .val (.ref b), .val (.int (Int32.ofNat o)), .val (.int (Int32.ofNat len)), .val .null, .val (.ref s.heap.size)] [.int (Int32.ofNat len), .ref s.heap.size, .ref a])) := c9.trans (by
      refine XS.astore X8.here hexec rfl (hb hbytes d39) rfl rfl rfl ?_
      refine XS.aloadN X8.here hexec rfl (hb hbytes d41) rfl rfl ?_
      refine XS.aload X8.here hexec rfl (hb hbytes d42) rfl rfl ?_
      refine XS.iloadN X8.here hexec rfl (hb hbytes d44) rfl ?_
      exact Steps.refl _)
    rw [n4]; exact hc
  obtain ⟨v11, T11, X11, E11, g11⟩ := X8.callS hexec (CodL.law l s.heap.size N) hown (wks W (staticW "java/lang/String" 47 CodL.yN)) (wk W CodL.tab) (W := 1) (Nat.le_of_ble_eq_true rfl) (Nat.le_of_ble_eq_true rfl) (Nat.le_refl _) (by show 0 + len + 0 ≤ len; omega) (g := (mkF m 45 #[.val (.ref a), .val (.ref b), .val (.int (Int32.ofNat o)), .val (.int (Int32.ofNat len)), .val .null, .val (.ref s.heap.size)] [.int (Int32.ofNat N.slots.size), .ref s.heap.size, .ref a])) rfl (by rw [hml]; rfl) c10 (argsL := [.ref s.heap.size, .int (Int32.ofNat N.slots.size)]) (rest := [.ref a]) rfl rfl (by show 2 * 0 + (1 + 0) ≤ _; decide) (hb hbytes d45) (⟨rfl, n1⟩)
  obtain ⟨rfl, q11⟩ := E11
  have hB11 := hB1.mv (X8.warmed.alike.symm.trans X11.warmed.alike) q11
  have c12 : Steps p.tables e below (s₁.setTop (entryFrame m #[.ref a, .ref b, .int (Int32.ofNat o), .int (Int32.ofNat len), .null] 6)) (T11.setTop (mkF m 48 #[.val (.ref a), .val (.ref b), .val (.int (Int32.ofNat o)), .val (.int (Int32.ofNat len)), .val .null, .val (.ref s.heap.size)] [.int 0, .ref a])) := g11
  obtain ⟨T13, X13, p13, bl13, sl13, st13⟩ := X11.finit hexec hown (wk W (.fieldLink "java/lang/String" 15 "java/lang/String" "coder" "B")) (Or.inr ⟨_, (wk W (.laysFinal "java/lang/String" "java/lang/String" "coder" "B"))⟩) (Or.inl ⟨rfl, hnm⟩) f2 (Or.inl rfl) hB11 (t := .byte) (by decide +kernel) rfl (g := (mkF m 48 #[.val (.ref a), .val (.ref b), .val (.int (Int32.ofNat o)), .val (.int (Int32.ofNat len)), .val .null, .val (.ref s.heap.size)] [.int 0, .ref a])) rfl (rest := []) rfl (hb hbytes d48)
  have c14 : Steps p.tables e below (s₁.setTop (entryFrame m #[.ref a, .ref b, .int (Int32.ofNat o), .int (Int32.ofNat len), .null] 6)) (T13.setTop (mkF m 54 #[.val (.ref a), .val (.ref b), .val (.int (Int32.ofNat o)), .val (.int (Int32.ofNat len)), .val .null, .val (.ref s.heap.size)] [.ref s.heap.size, .ref a])) := (c12.trans (st13 _ (Steps.refl _))).trans (by
    refine XS.aloadN X13.here hexec rfl (hb hbytes d51) rfl rfl ?_
    refine XS.aload X13.here hexec rfl (hb hbytes d52) rfl rfl ?_
    exact Steps.refl _)
  obtain ⟨T15, X15, p15, bl15, sl15, st15⟩ := X13.finit hexec hown (wk W (.fieldLink "java/lang/String" 9 "java/lang/String" "value" "[B")) (Or.inr ⟨_, (wk W (.laysFinal "java/lang/String" "java/lang/String" "value" "[B"))⟩) (Or.inl ⟨rfl, hnm⟩) f1 (Or.inl rfl) bl13 (t := (.array .byte)) (by decide +kernel) rfl (g := (mkF m 54 #[.val (.ref a), .val (.ref b), .val (.int (Int32.ofNat o)), .val (.int (Int32.ofNat len)), .val .null, .val (.ref s.heap.size)] [.ref s.heap.size, .ref a])) rfl (rest := []) rfl (hb hbytes d54)
  have c16 : Steps p.tables e below (s₁.setTop (entryFrame m #[.ref a, .ref b, .int (Int32.ofNat o), .int (Int32.ofNat len), .null] 6)) (T15.setTop (mkF m 57 #[.val (.ref a), .val (.ref b), .val (.int (Int32.ofNat o)), .val (.int (Int32.ofNat len)), .val .null, .val (.ref s.heap.size)] [])) := c14.trans (st15 _ (Steps.refl _))
  have ap := apart (Or.inr ⟨_, (wk W (.laysFinal "java/lang/String" "java/lang/String" "value" "[B"))⟩) (Or.inr ⟨_, (wk W (.laysFinal "java/lang/String" "java/lang/String" "coder" "B"))⟩) f1 f2 (t₁ := .array .byte) (t₂ := .byte) (by decide +kernel) (by decide +kernel) (by decide)
  have al := X8.warmed.alike.symm.trans X15.warmed.alike
  have n7 : T11.heap[s.heap.size]? = some N := by rw [q11]; exact n1.1
  exact ⟨T15, none, _, _, _, X15, by simp, rfl, by omega, (fun _ => rfl), ⟨rfl, _, N, bl15, ((Same.refl D _).set _ (by simp)).set _ (by simp), sl15, (Cell.slots_setSlot_ne _ ap).trans sl13, n1.keep al (p15.other hne (p13.other hne n7)), n2, by rw [al.findClass]; exact n3, n4, n5, fun y c h1 h2 => p15.other h1 (p13.other h1 (by rw [q11]; exact n6 y c h2)), by rw [p15.2.2, p13.2.2, q11]; exact z8⟩, fun fs hl => c16.trans (X15.returnOut hexec hret (hb hbytes d57) hl)⟩
end New4
namespace New1
def yN : MethodName := ⟨"java/lang/String", "<init>", "([C)V"⟩
abbrev yB : ByteArray := jdk_42_method_3_code
theorem d0 : decode yB 0 = .ok (.aload_n 0, 1) := by decide +kernel
theorem d1 : decode yB 1 = .ok (.aload_n 1, 1) := by decide +kernel
theorem d2 : decode yB 2 = .ok (.iconst 0, 1) := by decide +kernel
theorem d3 : decode yB 3 = .ok (.aload_n 1, 1) := by decide +kernel
theorem d4 : decode yB 4 = .ok (.arraylength, 1) := by decide +kernel
theorem d5 : decode yB 5 = .ok (.aconst_null, 1) := by decide +kernel
theorem d6 : decode yB 6 = .ok (.invokespecial 27, 3) := by decide +kernel
theorem d9 : decode yB 9 = .ok (.return_, 1) := by decide +kernel
def site : List Cond := [New4.tab] ++ initW "java/lang/String" 27 New4.yN
def tab : Cond := tabOf yN yB 2 none site
def P (a : Addr) (D : Cell) (fV fC : Field) (b : Addr) (A : Cell) (z : Int32) (args : Array Value) (s : State) : Prop := args = #[.ref a, .ref b] ∧ Blank "java/lang/String" a D s ∧ Found "java/lang/String" "value" "[B" fV s ∧ Found "java/lang/String" "coder" "B" fC s ∧ Ch b A s ∧ StaticIs s "java/lang/String" "COMPACT_STRINGS" "Z" (.int z) ∧ ¬ z = 0 ∧ 0 < A.slots.size ∧ A.slots.size ≤ 536870912 ∧ ∀ i, i < A.slots.size → ¬ 255 < cv A i
def E (a : Addr) (D : Cell) (fV fC : Field) (A : Cell) (r : Option Value) (s u : State) : Prop := Got a D fV fC A 0 A.slots.size r s u
/-- new String(chars), not empty, no char above 255: a Latin-1 String of their low bytes -/
theorem law (l : Launch) (a : Addr) (D : Cell) (fV fC : Field) (b : Addr) (A : Cell) (z : Int32) : Law l yN 2 1 3 52 yB 2 none site (P a D fV fC b A z) (E a D fV fC A) [⟨a, fC.slot⟩, ⟨a, fV.slot⟩] 1 A.slots.size := by
  refine Law.of_walk (plainFor_of_name (by decide +kernel)) (by decide +kernel) (by decide +kernel) (by decide) (fun _ _ h => by rw [h.1]; rfl) (fun _ U U' hal hh h => ⟨h.1, h.2.1.mv hal hh, h.2.2.1.al hal, h.2.2.2.1.al hal, h.2.2.2.2.1.mv hal hh, h.2.2.2.2.2.1.there hal hh, h.2.2.2.2.2.2⟩) (fun r U U' V V' h1 hal h2 h => Got.mv r U U' V V' h1 hal h2 h) ?_
  intro p e s m args below meth c s₁ X0 hexec hbytes hml hret hlk hnm hown hh0 W hP
  obtain ⟨rfl, hB, f1, f2, hA, s1, hz, l0, l2, hp⟩ := hP
  have c1 : Steps p.tables e below (s₁.setTop (entryFrame m #[.ref a, .ref b] 2)) (s₁.setTop (mkF m 0 #[.val (.ref a), .val (.ref b)] [])) := entry rfl
  have c2 : Steps p.tables e below (s₁.setTop (entryFrame m #[.ref a, .ref b] 2)) (s₁.setTop (mkF m 6 #[.val (.ref a), .val (.ref b)] [.null, .int (Int32.ofNat A.slots.size), .int 0, .ref b, .ref a])) := c1.trans (by
    refine XS.aloadN X0.here hexec rfl (hb hbytes d0) rfl rfl ?_
    refine XS.aloadN X0.here hexec rfl (hb hbytes d1) rfl rfl ?_
    refine iconstV X0.here hexec rfl 0 (hb hbytes d2) (by decide) ?_
    refine XS.aloadN X0.here hexec rfl (hb hbytes d3) rfl rfl ?_
    refine X0.alen hexec (hA.1.mv X0.warmed.alike hh0) rfl rfl (hb hbytes d4) ?_
    refine XS.aconstNull X0.here hexec rfl (hb hbytes d5) ?_
    exact Steps.refl _)
  obtain ⟨v3, T3, X3, E3, g3⟩ := X0.callN hexec (New4.law l a D fV fC b A z 0 A.slots.size) rfl hown (wks W (initW "java/lang/String" 27 New4.yN)) (W New4.tab (by simp only [site, List.mem_cons, List.mem_append, true_or, or_true])) (W := 0) (Nat.le_of_ble_eq_true rfl) (Nat.le_of_ble_eq_true rfl) (Nat.le_refl _) (by show 0 + A.slots.size ≤ A.slots.size; omega) (g := (mkF m 6 #[.val (.ref a), .val (.ref b)] [.null, .int (Int32.ofNat A.slots.size), .int (Int32.ofNat 0), .ref b, .ref a])) rfl (by rw [hml]; rfl) c2 (argsL := [.ref b, .int (Int32.ofNat 0), .int (Int32.ofNat A.slots.size), .null]) (rest := []) rfl rfl (by show 2 * 0 + 0 ≤ _; decide) (hb hbytes d6) (⟨rfl, hB.mv X0.warmed.alike hh0, f1.al X0.warmed.alike, f2.al X0.warmed.alike, hA.mv X0.warmed.alike hh0, s1.there X0.warmed.alike hh0, hz, l0, by omega, l2, fun i hi => by rw [Nat.zero_add]; exact hp i hi⟩)
  have e0 := Got.mv _ s₁ s _ _ hh0.symm (Vm.Alike.refl _) rfl E3
  obtain rfl := e0.1
  have c4 : Steps p.tables e below (s₁.setTop (entryFrame m #[.ref a, .ref b] 2)) (T3.setTop (mkF m 9 #[.val (.ref a), .val (.ref b)] [])) := g3
  exact ⟨T3, none, _, _, _, X3, by simp, rfl, by omega, (fun _ => rfl), e0, fun fs hl => c4.trans (X3.returnOut hexec hret (hb hbytes d9) hl)⟩
theorem pays {l : Launch} {R : Room} {p : Program} {e : Env} {below : List Frame} {s : State} {sargs : Array Value} {len W : Nat} (a : Addr) (D : Cell) (fV fC : Field) (b : Addr) (A : Cell) (z : Int32) (htab : tab.before sargs s = true) (hfr : 4 ≤ R.frames) (hlo : W + 65 ≤ R.locals) :
    Back l R p e below s sargs yN len W (fun A₁ a₁ => A₁.cells + 1 ≤ R.cells ∧ A₁.slots + A.slots.size ≤ R.slots ∧ P a D fV fC b A z a₁ A₁.U) (fun A₁ _ v₁ B₁ => E a D fV fC A v₁ A₁.U B₁.U ∧ B₁.locs = A₁.locs ++ [⟨a, fC.slot⟩, ⟨a, fV.slot⟩] ∧ B₁.cells = A₁.cells + 1 ∧ B₁.slots = A₁.slots + A.slots.size) :=
  (law l a D fV fC b A z).pays htab hfr (by omega)
end New1
end StrChars
namespace StrChars.Road
open Jvm Sem ClassFile Op Lib Jvm.Stand Jvm.Free Jvm.Free.XT
open Jvm.Lib.Cold (StaticIs)
abbrev ST : String := "java/lang/String"
/-- every table word that New1's law asks, flat -/
abbrev words : List Jvm.Cond := [.code New1.yN New1.yB 2 none, .initialized ST, .methodLink ST 27 New4.yN, .instanceMethod New4.yN,
  .code New4.yN New4.yB 6 none, .fieldLink ST 38 ST "COMPACT_STRINGS" "Z", .laysFinal ST ST "value" "[B", .fieldLink ST 9 ST "value" "[B", .laysFinal ST ST "coder" "B", .fieldLink ST 15 ST "coder" "B",
  .methodLink ST 1 Lib.objectInit, .instanceMethod Lib.objectInit, .code Lib.objectInit ⟨#[0xb1]⟩ 1 none, .methodLink ST 177 Cmp3.yN, .static Cmp3.yN, .methodLink ST 47 CodL.yN, .static CodL.yN,
  .code Cmp3.yN Cmp3.yB 6 (some (.array .byte)), .initialized U16, .arrayClass .byte, .methodLink U16 115 Cmp5.yN, .static Cmp5.yN, .code Cmp5.yN Cmp5.yB 7 (some .int), .code CodL.yN CodL.yB 2 (some .byte)]
theorem tab_of {a : Array Value} {s : State} (h : ∀ w ∈ words, w.before a s = true) : New1.tab.before a s = true := by
  have h5 : Cmp5.tab.before a s = true := unparts (wk h (.code Cmp5.yN Cmp5.yB 7 (some .int))) (wks h (.initialized Cmp5.yN.cls :: Cmp5.site))
  have hc : CodL.tab.before a s = true := unparts (wk h (.code CodL.yN CodL.yB 2 (some .byte))) (wks h (.initialized CodL.yN.cls :: CodL.site))
  have q5 : ∀ w ∈ Cmp5.tab :: words, w.before a s = true := fun w hw => (List.mem_cons.mp hw).elim (fun e => e ▸ h5) (h w)
  have h3 : Cmp3.tab.before a s = true := unparts (wk q5 (.code Cmp3.yN Cmp3.yB 6 (some (.array .byte)))) (wks q5 (.initialized Cmp3.yN.cls :: Cmp3.site))
  have q3 : ∀ w ∈ Cmp3.tab :: CodL.tab :: words, w.before a s = true := fun w hw => (List.mem_cons.mp hw).elim (fun e => e ▸ h3) fun hw => (List.mem_cons.mp hw).elim (fun e => e ▸ hc) (h w)
  have h4 : New4.tab.before a s = true := unparts (wk q3 (.code New4.yN New4.yB 6 none)) (wks q3 (.initialized New4.yN.cls :: New4.site))
  have q4 : ∀ w ∈ New4.tab :: words, w.before a s = true := fun w hw => (List.mem_cons.mp hw).elim (fun e => e ▸ h4) (h w)
  exact unparts (wk q4 (.code New1.yN New1.yB 2 none)) (wks q4 (.initialized New1.yN.cls :: New1.site))
/-- the words ride from the start Z to the walk's own state -/
theorem moved {Z s : State} {a0 args : Array Value} (hZ : Z.Warmed39 s.vm) (hw : ∀ d ∈ words, d.before a0 Z = true) : ∀ d ∈ words, d.before args s = true := fun d hd => by
  have q := hw d hd
  have t : ∀ d ∈ words, d = .arrayClass .byte ∨ (d.onTables && d.keepsFace) = true := by decide +kernel
  rcases t d hd with rfl | t
  · exact RoadKit.mvA hZ q
  · exact RoadKit.mv hZ q t
/-- WHAT COMES BACK, over the tables of the start Z: h the heap at the call, h' behind it -/
def Q (Z : State) (x : Addr) (A : Cell) (h : Heap) (v : Option Value) (h' : Heap) (L : List Loc) : Prop := v = none ∧ (∀ y ∈ L, y.base = x) ∧ RoadKit.Keep h h' [x] ∧ h'.size = h.size + 1 ∧ RoadKit.Exa Z h' x ST ∧ RoadKit.Fld Z h' x ST "value" "[B" (.ref h.size) ∧ RoadKit.Fld Z h' x ST "coder" "B" (.int 0) ∧
  (∃ V : Cell, RoadKit.Arr Z h' h.size V .byte ∧ V.vm = .none ∧ Z.vm.findClass "[B" = some V.cls ∧ V.slots.size = A.slots.size ∧ ∀ j, j < A.slots.size → V.slots[j]? = some (.int (lo8 (cv A j)))) ∧
  ∀ (O n d : String) (w : Value), RoadKit.Fld Z h x O n d w → RoadKit.slotOf Z O n d ≠ RoadKit.slotOf Z ST "value" "[B" → RoadKit.slotOf Z O n d ≠ RoadKit.slotOf Z ST "coder" "B" → RoadKit.Fld Z h' x O n d w
/-- **new String(chars) AT A CALL, IN THE ROAD'S FORM**: for specialBack behind newO: x the fresh String, b the char[] with the cell A -/
theorem back {p : Program} {l : Launch} {e : Env} {R : Room} {s : State} {args : Array Value} {below : List Frame} {len W : Nat} {Z : State} {a0 : Array Value} {h : Heap} (hZ : Z.Warmed39 s.vm) (hw : ∀ d ∈ words, d.before a0 Z = true) {kI : Nat} (wi : (Jvm.Cond.instantiable ST kI).before a0 Z = true)
    {x b : Addr} {A : Cell} {z : Int32} {v0 c0 : Value} (E : RoadKit.Exa Z h x ST) (V : RoadKit.Fld Z h x ST "value" "[B" v0) (C : RoadKit.Fld Z h x ST "coder" "B" c0) (K : RoadKit.Arr Z h b A .char) (hty : Typed .char A) (S : RoadKit.Sta Z h ST "COMPACT_STRINGS" "Z" (.int z)) (hz : ¬ z = 0)
    (l0 : 0 < A.slots.size) (l2 : A.slots.size ≤ 536870912) (hp : ∀ i, i < A.slots.size → ¬ 255 < cv A i) (hfr : 4 ≤ R.frames) (hlo : W + 65 ≤ R.locals) :
    Back l R p e below s args New1.yN len W (fun P a => a = #[.ref x, .ref b] ∧ P.U.heap = h ∧ P.cells + 1 ≤ R.cells ∧ P.slots + A.slots.size ≤ R.slots)
      (fun P _ v B => ∃ L, Q Z x A h v B.U.heap L ∧ B.locs = P.locs ++ L ∧ B.cells = P.cells + 1 ∧ B.slots = P.slots + A.slots.size) := by
  intro m meth c P g ig mk a X hg hsize hdg hW hn hp'
  obtain ⟨rfl, rfl, r1, r2⟩ := hp'
  have al : Z.vm.Alike P.U.vm := hZ.alike.trans X.warmed.alike
  obtain ⟨D, cfV, kV, iV, fV, hD, gV, stV, knV, obV, asV, slV⟩ := id V
  obtain ⟨D', cfC, kC, iC, fC, hD', gC, stC, -, -, asC, slC⟩ := id C
  cases hD.symm.trans hD'
  obtain ⟨D2, kD, e1, e2, e3, e4, e5⟩ := id E
  cases hD.symm.trans e1
  obtain ⟨c2, k2, i1, i2, i3, -⟩ := Cond.instantiable_spec wi
  cases e2.symm.trans i1
  cases e3.symm.trans i2
  obtain ⟨kU, u1, u2⟩ := al.2.2 _ _ e3
  have hB : Blank ST x D P.U := ⟨hD, ⟨knV, fun q hq => by rw [hq] at obV; cases obV⟩, by rw [al.findClass]; exact e2, kU, u1, by rw [u2]; exact i3, by rw [u2]; exact e5 i3⟩
  have F1 : Found ST "value" "[B" fV P.U := ⟨SBG.found_only al ⟨cfV, kV, iV, gV⟩, stV⟩
  have F2 : Found ST "coder" "B" fC P.U := ⟨SBG.found_only al ⟨cfC, kC, iC, gC⟩, stC⟩
  have hA : Ch b A P.U := ⟨⟨K.1, State.isArrayOf_alike al K.2.1, K.2.2, by omega⟩, hty⟩
  have hS : StaticIs P.U ST "COMPACT_STRINGS" "Z" (.int z) := by
    obtain ⟨cfS, iS, kS, fS, st, cS, t1, t2, t3, t4, t5, t6, t7⟩ := S
    exact StaticIs.there (s := { Z with heap := P.U.heap }) ⟨cfS, iS, kS, fS, st, cS, t1, t2, t3, t4, t5, (fun q => by rw [q] at t6; cases t6), t7⟩ al rfl
  obtain ⟨v, B, X', ⟨⟨hv, E', V', q1, q2, q3, q4, q5, q6, q7, q8, q9, q10, q11⟩, hl, hc, hs⟩, st⟩ := New1.pays x D fV fC b A z (tab_of (moved hZ hw)) hfr hlo m meth c P g ig mk _ X hg hsize hdg hW hn ⟨r1, r2, rfl, hB, F1, F2, hA, hS, hz, l0, l2, hp⟩
  have al' : Z.vm.Alike B.U.vm := hZ.alike.trans X'.warmed.alike
  have hsz : E'.slots.size = D.slots.size := by
    obtain ⟨-, -, -, kB, w1, w2, w3⟩ := q1
    obtain ⟨kB', y1, y2⟩ := al'.2.2 _ _ e3
    rw [q2.2.1] at w1
    cases w1.symm.trans y1
    rw [w3, e5 i3, y2]
  refine ⟨v, B, X', ⟨_, ⟨hv, ?_, ⟨by omega, fun y cy hy hn' => q10 y cy (by simpa using hn') hy, fun y cy hy => ?_⟩, q11, ⟨E', _, q1.1, by rw [q2.2.1]; exact e2, by rw [q2.2.1]; exact e3, by rw [q2.1]; exact obV, fun _ => by rw [hsz]; exact e5 i3⟩,
    ⟨E', cfV, kV, iV, fV, q1.1, gV, stV, by rw [q2.1]; exact knV, by rw [q2.1]; exact obV, by rw [q2.2.1]; exact asV, q3⟩, ⟨E', cfC, kC, iC, fC, q1.1, gC, stC, by rw [q2.1]; exact knV, by rw [q2.1]; exact obV, by rw [q2.2.1]; exact asC, q4⟩,
    ⟨V', ⟨q5.1, State.isArrayOf_alike al'.symm q5.2.1, q5.2.2.1⟩, q6, by rw [← al'.findClass]; exact q7, q8, fun j hj => by have := q9 j hj; rwa [Nat.zero_add] at this⟩, fun O n d w F n1 n2 => ?_⟩, hl, hc, hs⟩, st⟩
  · intro y hy
    simp only [List.mem_cons, List.not_mem_nil, or_false] at hy
    rcases hy with rfl | rfl <;> rfl
  · by_cases q : y = x
    · subst q
      cases hD.symm.trans hy
      exact ⟨E', q1.1, q2.2.1, q2.1, hsz⟩
    · exact ⟨cy, q10 y cy q hy, rfl, rfl, rfl⟩
  · obtain ⟨D3, cf, k, i, f, g1, g2, g3, g4, g5, g6, g7⟩ := F
    cases hD.symm.trans g1
    simp only [RoadKit.slotOf, g2, gV, gC, Option.map_some, Option.getD_some] at n1 n2
    exact ⟨E', cf, k, i, f, q1.1, g2, g3, by rw [q2.1]; exact g4, by rw [q2.1]; exact g5, by rw [q2.2.1]; exact g6, by rw [q2.2.2 f.slot (by simp [n1, n2])]; exact g7⟩
end StrChars.Road
namespace StrChars.Road
open Jvm Sem ClassFile Op Lib Jvm.Stand Jvm.Free Jvm.Free.XT
/-- WHAT COMES BACK, the byte[] as a list of values -/
def QA (Z : State) (x : Addr) (zn : Int32) (cs : List Int32) (h : Heap) (v : Option Value) (h' : Heap) (L : List Loc) : Prop := v = none ∧ (∀ y ∈ L, y.base = x) ∧ RoadKit.Keep h h' [x] ∧ h'.size = h.size + 1 ∧ RoadKit.Exa Z h' x ST ∧ RoadKit.Fld Z h' x ST "value" "[B" (.ref h.size) ∧ RoadKit.Fld Z h' x ST "coder" "B" (.int 0) ∧
  (∃ kb, Z.vm.findClass "[B" = some kb ∧ RoadKit.Arv Z h' h.size kb .byte zn (cs.map fun c => .int (lo8 c)) (.int 0)) ∧
  ∀ (O n d : String) (w : Value), RoadKit.Fld Z h x O n d w → RoadKit.slotOf Z O n d ≠ RoadKit.slotOf Z ST "value" "[B" → RoadKit.slotOf Z O n d ≠ RoadKit.slotOf Z ST "coder" "B" → RoadKit.Fld Z h' x O n d w
/-- **new String(chars) AT A CALL, THE ARRAYS AS LISTS**: the char[] at b holds cs, not empty, no char above 255 -/
theorem backArv {p : Program} {l : Launch} {e : Env} {R : Room} {s : State} {args : Array Value} {below : List Frame} {len W : Nat} {Z : State} {a0 : Array Value} {h : Heap} (hZ : Z.Warmed39 s.vm) (hw : ∀ d ∈ words, d.before a0 Z = true) {kI : Nat} (wi : (Jvm.Cond.instantiable ST kI).before a0 Z = true)
    {x b : Addr} {k : ClassId} {zn z : Int32} {cs : List Int32} {dv v0 c0 : Value} (E : RoadKit.Exa Z h x ST) (V : RoadKit.Fld Z h x ST "value" "[B" v0) (C : RoadKit.Fld Z h x ST "coder" "B" c0) (K : RoadKit.Arv Z h b k .char zn (cs.map Value.int) dv) (S : RoadKit.Sta Z h ST "COMPACT_STRINGS" "Z" (.int z)) (hz : ¬ z = 0)
    (hlen : zn.toNatClampNeg = cs.length) (h0 : 0 < cs.length) (hbig : cs.length ≤ 536870912) (hall : ∀ c ∈ cs, ¬ 255 < c) (hfr : 4 ≤ R.frames) (hlo : W + 65 ≤ R.locals) :
    Back l R p e below s args New1.yN len W (fun P a => a = #[.ref x, .ref b] ∧ P.U.heap = h ∧ P.cells + 1 ≤ R.cells ∧ P.slots + cs.length ≤ R.slots)
      (fun P _ v B => ∃ L, QA Z x zn cs h v B.U.heap L ∧ B.locs = P.locs ++ L ∧ B.cells = P.cells + 1 ∧ B.slots = P.slots + cs.length) := by
  obtain ⟨A, K1, K2, K3, K4, K5, K6⟩ := K
  have e : A.slots.size = cs.length := K3.trans hlen
  have hat : ∀ (i : Nat) (hi : i < cs.length), A.slots[i]? = some (.int cs[i]) := fun i hi => by rw [K5 i (by omega)]; simp [List.getD_eq_getElem?_getD, hi]
  have hcv : ∀ (i : Nat) (hi : i < cs.length), cv A i = cs[i] := fun i hi => by unfold cv; rw [hat i hi]
  have hty : Typed .char A := fun i v hv => by
    have hi : i < A.slots.size := (Array.getElem?_eq_some_iff.mp hv).1
    have q := K5 i hi
    rw [hv] at q
    rw [Option.some.inj q]
    exact K6 i hi
  refine Back.mono (back hZ hw wi E V C K1 hty S hz (by omega) (by omega) (fun i hi => by rw [hcv i (by omega)]; exact hall _ (List.getElem_mem _)) hfr hlo) (fun P a hp => ⟨hp.1, hp.2.1, hp.2.2.1, by rw [e]; exact hp.2.2.2⟩) (fun P a v B hp hq => ?_)
  obtain ⟨L, ⟨q1, q2, q3, q4, q5, q6, q7, ⟨V', v1, v2, v3, v4, v5⟩, q9⟩, hl, hc, hs⟩ := hq
  refine ⟨L, ⟨q1, q2, q3, q4, q5, q6, q7, ⟨V'.cls, v3, V', v1, rfl, by rw [v4, e, hlen], K4, fun i hi => ?_, fun i hi => ?_⟩, q9⟩, hl, hc, by rw [hs, e]⟩
  · have hi' : i < cs.length := by omega
    rw [v5 i (by omega), hcv i hi']; simp [List.getD_eq_getElem?_getD, hi']
  · have hi' : i < cs.length := by omega
    simp only [List.getD_eq_getElem?_getD, List.getElem?_map, List.getElem?_eq_getElem hi', Option.map_some, Option.getD_some]
    exact fits_lo8 _
end StrChars.Road
namespace StrChars.Road
open Jvm Sem ClassFile Op Lib Jvm.Stand Jvm.Free Jvm.Free.XT
/-- WHAT COMES BACK, in the writer's own shape -/
def QV (Z : State) (x : Addr) (N : Int32) (bs : List Int32) (h : Heap) (n0 : Nat) (v : Option Value) (h' : Heap) (L : List Loc) : Prop := v = none ∧ RoadKit.Fr n0 L ∧ RoadKit.Keep h h' [x] ∧ RoadKit.Exa Z h' x ST ∧ RoadKit.Fld Z h' x ST "coder" "B" (.int 0) ∧
  ∃ (t : Addr) (kb : ClassId), n0 ≤ t ∧ h.size ≤ t ∧ ¬ t = x ∧ RoadKit.Fld Z h' x ST "value" "[B" (.ref t) ∧ RoadKit.Arv Z h' t kb .byte N (bs.map Value.int) (.int 0)
/-- **new String(chars) AT A CALL, FOR THE WRITER**: a char[] of n known ints, each 0 to 255 -/
theorem backV {p : Program} {l : Launch} {e : Env} {R : Room} {s : State} {args : Array Value} {below : List Frame} {len W : Nat} {Z : State} {a0 : Array Value} {h : Heap} (hZ : Z.Warmed39 s.vm) (hw : ∀ d ∈ words, d.before a0 Z = true) {kI : Nat} (wi : (Jvm.Cond.instantiable ST kI).before a0 Z = true)
    {x b : Addr} {kC : ClassId} {cs bs : List Int32} {d v0 c0 : Value} {z N : Int32} {n n0 : Nat} (hx0 : n0 ≤ x) (hh0 : n0 ≤ h.size) (E : RoadKit.Exa Z h x ST) (V : RoadKit.Fld Z h x ST "value" "[B" v0) (C : RoadKit.Fld Z h x ST "coder" "B" c0) (K : RoadKit.Arv Z h b kC .char N (cs.map Value.int) d) (S : RoadKit.Sta Z h ST "COMPACT_STRINGS" "Z" (.int z)) (hz : ¬ z = 0)
    (hn : cs.length = n) (hN : N = Int32.ofNat n) (l0 : 0 < n) (l2 : n ≤ 4000) (hp : ∀ c ∈ cs, ¬ c < 0 ∧ ¬ (255 : Int32) < c) (hb : bs = cs.map (fun c => c.toInt8.toInt32)) (hfr : 4 ≤ R.frames) (hlo : W + 65 ≤ R.locals) :
    Back l R p e below s args (⟨"java/lang/String", "<init>", "([C)V"⟩ : MethodName) len W (fun P a => a = #[.ref x, .ref b] ∧ P.U.heap = h ∧ P.cells + 1 ≤ R.cells ∧ P.slots + n ≤ R.slots)
      (fun P _ v B => ∃ L, QV Z x N bs h n0 v B.U.heap L ∧ B.locs = P.locs ++ L ∧ B.cells = P.cells + 1 ∧ B.slots = P.slots + n) := by
  subst hn hN hb
  refine Back.mono (backArv hZ hw wi E V C K S hz (n32 (by omega)) l0 (by omega) (fun c hc => (hp c hc).2) hfr hlo) (fun P a hp => hp) (fun P a v B hp hq => ?_)
  obtain ⟨L, ⟨q1, q2, q3, q4, q5, q6, q7, ⟨kb, v1, v2⟩, q9⟩, hl, hc, hs⟩ := hq
  exact ⟨L, ⟨q1, fun y hy => by rw [q2 y hy]; exact hx0, q3, q5, q7, h.size, kb, hh0, Nat.le_refl _, Nat.ne_of_gt E.lt, q6, by rw [List.map_map]; exact v2⟩, hl, hc, hs⟩
end StrChars.Road
end Jvm.Pilot.@@N@@
namespace Jvm.OwnKit
open Jvm Jvm.ClassFile Sem Op Lib Jvm.Free Jvm.Stand Jvm.LawKit Jvm.RoadKit Bundle
/-- what is left to show of a walk that stands at S: it ends, and Q holds there -/
def Go (tb : Tables) (e : Env) (below : List Frame) (Q : Outcome → State → Prop) (S : State) : Prop :=
  ∃ (U : State) (o : Outcome), Steps tb e below S U ∧ U.status = .running ∧ Ended U below o ∧ Q o U
section
variable {tb : Tables} {e : Env} {below : List Frame} {Q : Outcome → State → Prop} {S S' : State}
theorem Go.st (f : ∀ {t : State}, Steps tb e below S' t → Steps tb e below S t) (h : Go tb e below Q S') : Go tb e below Q S := by
  obtain ⟨U, o, h1, h2⟩ := h
  exact ⟨U, o, f h1, h2⟩
theorem Go.to (f : ∀ t : State, Steps tb e below S' t → Steps tb e below S t) (h : Go tb e below Q S') : Go tb e below Q S := Go.st (fun {t} => f t) h
theorem Go.run (f : Steps tb e below S S') (h : Go tb e below Q S') : Go tb e below Q S := by
  obtain ⟨U, o, h1, h2⟩ := h
  exact ⟨U, o, f.trans h1, h2⟩
end
theorem castGo {tb : Tables} {e : Env} {below : List Frame} {Q : Outcome → State → Prop} {T : State} {g g' : JFrame} (q : g = g') (k : Go tb e below Q (T.setTop g')) : Go tb e below Q (T.setTop g) := q ▸ k
/-- the end of a plain walk -/
def PEnd (s : State) (Qc : Option Value → Heap → List Loc → Prop) (kc ks : Nat) (o : Outcome) (U : State) : Prop :=
  ∃ v L, o = .returned v ∧ Qc v U.heap L ∧ FrameEnd s o U L kc ks
/-- a plain contract: from the heap h with these arguments it returns, Qc holds, the room is kept -/
def Con (l : Launch) (Z : State) (y : MethodName) (bytes : ByteArray) (maxL : Nat) (ret : Option FieldType) (rm : Room) (as' : Array Value) (h : Heap) (Qc : Option Value → Heap → List Loc → Prop) : Prop :=
  ∀ ws : List Jvm.Cond, MetFree l y (head1 (Jvm.Cond.code y bytes maxL ret :: ws) rm) (fun a U => a = as' ∧ Z.Warmed39 U.vm ∧ U.heap = h) (fun _ _ _ _ _ => True) (fun _ U o U' => PEnd U Qc rm.cells rm.slots o U')
theorem Con.intro {l : Launch} {Z : State} {y : MethodName} {bytes : ByteArray} {maxL : Nat} {ret : Option FieldType} {rm : Room} {as' : Array Value} {h : Heap} {Qc : Option Value → Heap → List Loc → Prop} (pn : plainFor y = true)
    (body : ∀ (p : Program) (e : Env) (s : State) (m : MethodId) (below : List Frame) (meth : Method) (c : Code) (T : State), Stand p l e rm s m as' below meth c T [] 0 0 → p.tables.exec = Jvm.exec → c.code = bytes → c.maxLocals = maxL →
      s.vm.findClass y.cls = some m.cls → meth.name = y.name → meth.sig.returnType = ret → meth.locks = false → Z.Warmed39 s.vm → T.heap = h →
      Go p.tables e below (PEnd s Qc rm.cells rm.slots) (T.setTop (entryFrame m as' maxL))) : Con l Z y bytes maxL ret rm as' h Qc := by
  intro ws
  refine MetFree.of_bodySF pn hisR ?_
  intro p e s m args below meth c s₁ Bd hml0 hP hK
  obtain ⟨rfl, hZ, hh⟩ := hP
  exact body p e s m below meth c s₁ (Stand.of_body Bd) Bd.exec Bd.bytes hml0 (findClass_of_methodNamed Bd.named) (name_of_methodNamed Bd.named Bd.method).1 Bd.returns Bd.notSynchronized hZ (by rw [← hh, Bd.state]; rfl)
/-- the end of a walk that may have interned -/
def SEnd (Z : State) (EL : List (String × Nat)) (s : State) (Qc : Option Value → Heap → List Loc → Prop) (kc ks : Nat) (o : Outcome) (U : State) : Prop :=
  ∃ v L, o = .returned v ∧ Qc v U.heap L ∧ CHr Z EL s.vm s.heap U.vm U.heap ∧ ReturnedEndW s o U L kc ks
/-- a contract of a method that may load String constants; sl: cells that no constant uses -/
def ConS (l : Launch) (Z : State) (EL : List (String × Nat)) (y : MethodName) (bytes : ByteArray) (maxL : Nat) (ret : Option FieldType) (rm : Room) (as' : Array Value) (h : Heap) (sl : List Addr) (Qc : Option Value → Heap → List Loc → Prop) : Prop :=
  ∀ ws : List Jvm.Cond, MetFree l y (head1 (Jvm.Cond.code y bytes maxL ret :: ws) rm) (fun a U => a = as' ∧ Z.Warmed39 U.vm ∧ U.heap = h ∧ CHv Z EL U.vm h ∧ ∀ x ∈ sl, Safe Z EL U.vm h x) (fun _ _ _ _ _ => True) (fun _ U o U' => SEnd Z EL U Qc rm.cells rm.slots o U')
theorem ConS.intro {l : Launch} {Z : State} {EL : List (String × Nat)} {y : MethodName} {bytes : ByteArray} {maxL : Nat} {ret : Option FieldType} {rm : Room} {as' : Array Value} {h : Heap} {sl : List Addr} {Qc : Option Value → Heap → List Loc → Prop} (pn : plainFor y = true)
    (body : ∀ (p : Program) (e : Env) (s : State) (m : MethodId) (below : List Frame) (meth : Method) (c : Code) (T : State) (v0 : Vm), Stand p l e rm (s.setVm v0) m as' below meth c T [] 0 0 → p.tables.exec = Jvm.exec → c.code = bytes → c.maxLocals = maxL →
      v0.findClass y.cls = some m.cls → meth.name = y.name → meth.sig.returnType = ret → meth.locks = false → Z.Warmed39 v0 → T.heap = h → s.Since v0 0 → CHr Z EL s.vm s.heap v0 h → (∀ x ∈ sl, Safe Z EL v0 h x) →
      Go p.tables e below (SEnd Z EL s Qc rm.cells rm.slots) (T.setTop (entryFrame m as' maxL))) : ConS l Z EL y bytes maxL ret rm as' h sl Qc := by
  intro ws
  refine MetFree.of_bodySF pn hisR ?_
  intro p e s m args below meth c s₁ Bd hml0 hP hK
  obtain ⟨rfl, hZ, hh, hC, hs⟩ := hP
  exact body p e s m below meth c s₁ s.vm (Stand.of_body Bd) Bd.exec Bd.bytes hml0 (findClass_of_methodNamed Bd.named) (name_of_methodNamed Bd.named Bd.method).1 Bd.returns Bd.notSynchronized hZ (by rw [← hh, Bd.state]; rfl) ((State.WarmedH.refl s).since 0) (by rw [hh]; exact CHr.refl hC) hs
section Ends
variable {p : Program} {l : Launch} {e : Env} {R : Room} {s : State} {m : MethodId} {args : Array Value} {below : List Frame} {meth : Method} {c : Code} {T : State} {locs : List Loc} {cells slots : Nat} {Z : State} {a0 : Array Value} {EL : List (String × Nat)} {h : Heap} {Qc : Option Value → Heap → List Loc → Prop} {kc ks pc : Nat} {Ls : Array Slot} {rest : List Value} {vm1 : Vm} {n1 : Nat}
/-- any plain end, its last step given -/
theorem endP (X : Stand p l e R s m args below meth c T locs cells slots) (hlk : meth.locks = false) {v : Option Value} (hv : meth.sig.returnType = none → v = none) {S : State}
    (hst : ∀ fs : List Frame, (∀ (f : JFrame) (acts : List Action), f.method = m → f.locked = none → f.entered = [] → (doReturn e (T.setTop f) acts v).1 = T.setFrames fs) → Steps p.tables e below S (T.setFrames fs))
    (hq : Qc v T.heap locs) (h1 : cells ≤ kc) (h2 : slots ≤ ks) : Go p.tables e below (PEnd s Qc kc ks) S := by
  obtain ⟨fs, hr, hrun, hended, hW, hsame⟩ := X.leave (v := v) hv hlk
  exact ⟨_, _, hst fs hr, hrun, hended, _, _, rfl, hq, ⟨_, rfl⟩, hW, hsame.mono h1 h2⟩
theorem mono_sbn {s t : State} {L : List Loc} {k n k' n' : Nat} {o : Outcome} (h : ReturnedEndW s o t L k n) (h1 : k ≤ k') (h2 : n ≤ n') : ReturnedEndW s o t L k' n' := ⟨h.1, h.2.1, h.2.2.1, h.2.2.2.mono h1 h2⟩
theorem endC (X : Stand p l e R (s.setVm vm1) m args below meth c T locs cells slots) (hlk : meth.locks = false) (hS : s.Since vm1 n1) (hk : n1 ≤ T.heap.size) (hZ : Z.Warmed39 vm1) (w : EW Z a0 EL) (C : CHr Z EL s.vm s.heap vm1 T.heap) {v : Option Value} (hv : meth.sig.returnType = none → v = none) {S : State}
    (hst : ∀ fs : List Frame, (∀ (f : JFrame) (acts : List Action), f.method = m → f.locked = none → f.entered = [] → (doReturn e (T.setTop f) acts v).1 = T.setFrames fs) → Steps p.tables e below S (T.setFrames fs))
    (hq : Qc v T.heap locs) (h1 : cells ≤ kc) (h2 : slots ≤ ks) : Go p.tables e below (SEnd Z EL s Qc kc ks) S := by
  obtain ⟨fs, hr, hrun, hended, hW⟩ := X.leaveW hS hk (v := v) hv hlk
  have hC : CHr Z EL s.vm s.heap T.vm T.heap := C.trans (CHv.at X hZ w C.1)
  exact ⟨_, _, hst fs hr, hrun, hended, _, _, rfl, hq, hC, mono_sbn hW h1 h2⟩
/-- the last steps -/
theorem lastV (X : Stand p l e R s m args below meth c T locs cells slots) (hx : p.tables.exec = Jvm.exec) (hret : meth.sig.returnType = none) (hd : decode c.code pc = .ok (.return_, 1)) : ∀ fs : List Frame, (∀ (f : JFrame) (acts : List Action), f.method = m → f.locked = none → f.entered = [] → (doReturn e (T.setTop f) acts none).1 = T.setFrames fs) →
    Steps p.tables e below (T.setTop (mkF m pc Ls [])) (T.setFrames fs) := fun fs hr => X.returnOut hx hret hd hr
theorem lastN (X : Stand p l e R s m args below meth c T locs cells slots) (hx : p.tables.exec = Jvm.exec) {z z' : Int32} {t : FieldType} (hret : meth.sig.returnType = some t) (ht : t = .boolean ∨ t = .byte ∨ t = .char ∨ t = .short) (hz : nar t z = z') (hd : decode c.code pc = .ok (.ireturn, 1)) :
    ∀ fs : List Frame, (∀ (f : JFrame) (acts : List Action), f.method = m → f.locked = none → f.entered = [] → (doReturn e (T.setTop f) acts (some (.int z'))).1 = T.setFrames fs) → Steps p.tables e below (T.setTop (mkF m pc Ls (.int z :: rest))) (T.setFrames fs) := fun fs hr => by
  subst hz; exact retN X hx hret ht hd hr
theorem lastI (X : Stand p l e R s m args below meth c T locs cells slots) (hx : p.tables.exec = Jvm.exec) {z : Int32} (hret : meth.sig.returnType = some .int) (hd : decode c.code pc = .ok (.ireturn, 1)) :
    ∀ fs : List Frame, (∀ (f : JFrame) (acts : List Action), f.method = m → f.locked = none → f.entered = [] → (doReturn e (T.setTop f) acts (some (.int z))).1 = T.setFrames fs) → Steps p.tables e below (T.setTop (mkF m pc Ls (.int z :: rest))) (T.setFrames fs) := fun fs hr =>
  retOut X hx hret rfl (Or.inl ⟨rfl, Or.inl rfl, z, rfl⟩) hd hr
theorem lastA (X : Stand p l e R s m args below meth c T locs cells slots) (hx : p.tables.exec = Jvm.exec) {w : Value} {t : FieldType} (hret : meth.sig.returnType = some t) (ht : t.isReference = true) (hn : narrow t w = w) (hw : w.isRef = true) (hd : decode c.code pc = .ok (.areturn, 1)) :
    ∀ fs : List Frame, (∀ (f : JFrame) (acts : List Action), f.method = m → f.locked = none → f.entered = [] → (doReturn e (T.setTop f) acts (some w)).1 = T.setFrames fs) → Steps p.tables e below (T.setTop (mkF m pc Ls (w :: rest))) (T.setFrames fs) := fun fs hr =>
  retOut X hx hret hn (Or.inr (Or.inr (Or.inr (Or.inr ⟨rfl, ht, hw⟩)))) hd hr
end Ends
/-- what pays a call: from the heap h, k cells and n slots -/
abbrev BackQ (l : Launch) (R : Room) (p : Program) (e : Env) (below : List Frame) (s : State) (sargs : Array Value) (y : MethodName) (len W : Nat) (as' : Array Value) (h : Heap) (k n : Nat) (Q : Option Value → Heap → List Loc → Prop) : Prop :=
  Back l R p e below s sargs y len W (fun A a => a = as' ∧ A.U.heap = h ∧ A.cells + k ≤ R.cells ∧ A.slots + n ≤ R.slots) (fun A _ v B => ∃ L, Q v B.U.heap L ∧ B.locs = A.locs ++ L ∧ B.cells = A.cells + k ∧ B.slots = A.slots + n)
abbrev BackSQ (l : Launch) (R : Room) (p : Program) (e : Env) (below : List Frame) (s : State) (vm0 : Vm) (sargs : Array Value) (y : MethodName) (len W : Nat) (as' : Array Value) (h : Heap) (k n : Nat) (Z : State) (EL : List (String × Nat)) (Q : Option Value → Heap → List Loc → Prop) : Prop :=
  BackS l R p e below (s.setVm vm0) sargs y len W (fun A a => a = as' ∧ A.U.heap = h ∧ A.cells + k ≤ R.cells ∧ A.slots + n ≤ R.slots) (fun A _ v B => ∃ L, Q v B.U.heap L ∧ B.locs = A.locs ++ L ∧ B.cells = A.cells + k ∧ B.slots = A.slots + n ∧ CHr Z EL vm0 h B.U.vm B.U.heap)
section Calls
variable {p : Program} {l : Launch} {e : Env} {R : Room} {s : State} {m : MethodId} {args : Array Value} {below : List Frame} {meth : Method} {c : Code} {T : State} {locs : List Loc} {cells slots : Nat} {Z : State} {a0 : Array Value} {EL : List (String × Nat)} {h : Heap} {Qc : Option Value → Heap → List Loc → Prop} {vm0 : Vm} {n0 : Nat}
  {y z : MethodName} {bytes : ByteArray} {maxL : Nat} {ret : Option FieldType} {rm : Room} {as' : Array Value} {own C : String} {index count W k n len : Nat} {g : JFrame} {a : Addr} {argsL rest : List Value}
theorem Con.back (hM : Con l Z y bytes maxL ret rm as' h Qc) (hZ : Z.Warmed39 s.vm) (wc : (Jvm.Cond.code y bytes maxL ret).before a0 Z = true) (wz : (Jvm.Cond.initialized y.cls).before a0 Z = true) (hf : rm.frames + 1 ≤ R.frames) (hl : W + (maxL + 11) + rm.locals ≤ R.locals) :
    BackQ l R p e below s args y len W as' h rm.cells rm.slots Qc := backOf (Q := Qc) (hM []) hZ wc wz hf hl
theorem ConS.back {sl : List Addr} (hM : ConS l Z EL y bytes maxL ret rm as' h sl Qc) (hZ : Z.Warmed39 vm0) (wc : (Jvm.Cond.code y bytes maxL ret).before a0 Z = true) (wz : (Jvm.Cond.initialized y.cls).before a0 Z = true) (hf : rm.frames + 1 ≤ R.frames) (hl : W + (maxL + 11) + rm.locals ≤ R.locals) (hEL : EW Z a0 EL) (H : CHv Z EL vm0 h)
    (hs : ∀ x ∈ sl, Safe Z EL vm0 h x) (hlt : ∀ x ∈ sl, x < h.size) : BackSQ l R p e below s vm0 args y len W as' h rm.cells rm.slots Z EL Qc :=
  BackS.of_freeW (bytes := bytes) (maxL := maxL) (ret := ret) (E := fun _ first o t L k n => k = rm.cells ∧ n = rm.slots ∧ (∃ v, o = .returned v ∧ Qc v t.heap L) ∧ CHr Z EL first.vm first.heap t.vm t.heap) (hM []) hf hl
    (fun m meth c A a Y hp => have hU : Z.Warmed39 A.U.vm := wtrans (s := s.setVm vm0) hZ Y.warmed
      ⟨by show (Cond.and _ .tt).before a A.U = true; rw [Cond.before_and, mv hU wc]; rfl, mv hU wc, mv hU wz, hp.2.2.1, hp.2.2.2⟩)
    (fun m meth c A a g mk Y hp => ⟨hp.1, wtrans (s := s.setVm vm0) hZ Y.warmed, hp.2.1, (CHv.at Y hZ hEL H).1, fun x hx => (CHv.at Y hZ hEL H).safe (hlt x hx) (hs x hx)⟩) (fun _ _ _ _ _ _ _ _ _ => trivial)
    (fun _ _ _ _ ⟨v, L, h1, h2, h3, h4⟩ => ⟨L, _, _, h4, rfl, rfl, ⟨v, h1, h2⟩, h3⟩)
    (fun m meth c A a g mk v t L k n Y hp _ _ ⟨e1, e2, ⟨v', e3, e4⟩, e5⟩ => by
      cases e3; subst e1 e2
      refine ⟨L, e4, rfl, rfl, rfl, (CHv.at Y hZ hEL H).trans ?_⟩
      rw [← hp.2.1]; exact e5)
theorem callSp (X : Stand p l e R s m args below meth c T locs cells slots) (hx : p.tables.exec = Jvm.exec) (hZ : Z.Warmed39 s.vm) (hown : s.vm.findClass own = some m.cls) (hy1 : y.name = "<init>") (w1 : (Jvm.Cond.methodLink own index y).before a0 Z = true) (w2 : (Jvm.Cond.instanceMethod y).before a0 Z = true) (w3 : (Jvm.Cond.code y bytes maxL none).before a0 Z = true)
    (hyc : y.cls ≠ "java/lang/invoke/MethodHandle" ∧ y.cls ≠ "java/lang/invoke/VarHandle") (eT : T.heap = h) (hK : BackQ l R p e below s args y 3 W (.ref a :: argsL).toArray h k n Qc)
    (hg : g.method = m) (hsize : g.locals.size = c.maxLocals) (hlen : ∀ sig, parseMethodDescriptor y.desc = some sig → argsL.length = sig.parameters.length) (hstack : g.stack = argsL.reverse ++ .ref a :: rest) (hW : 2 * g.monitorRoom + (rest.map fun v => v.category).sum ≤ W)
    (hdg : decode c.code g.pc = .ok (.invokespecial index, 3)) (hc : cells + k ≤ R.cells) (hs : slots + n ≤ R.slots) :
    ∃ v T' L, Stand p l e R s m args below meth c T' (locs ++ L) (cells + k) (slots + n) ∧ Qc v T'.heap L ∧ Steps p.tables e below (T.setTop g) (T'.setTop { g with pc := g.pc + 3, stack := v.toList ++ rest }) := by
  obtain ⟨v, vm1, ⟨T', L', k', n'⟩, -, X', ⟨L, hQ, rfl, rfl, rfl⟩, st⟩ := X.specialBack hx hy1 hown (mvT hZ w1) (mvT hZ w2) (mvT hZ w3) hyc hK hg hsize (Steps.refl _) hlen hstack hW hdg (fun _ _ => ⟨rfl, eT, hc, hs⟩)
  exact ⟨v, T', L, X', hQ, st⟩
theorem callVi (X : Stand p l e R s m args below meth c T locs cells slots) (hx : p.tables.exec = Jvm.exec) (hZ : Z.Warmed39 s.vm) (hown : s.vm.findClass own = some m.cls) (w1 : (Jvm.Cond.methodLink own index y).before a0 Z = true) (w2 : (Jvm.Cond.declares y).before a0 Z = true) (nf : NotFace s y) (w4 : (Jvm.Cond.selects C y z).before a0 Z = true) (w5 : (Jvm.Cond.instanceMethod z).before a0 Z = true)
    (hyc : y.cls ≠ "java/lang/invoke/MethodHandle" ∧ y.cls ≠ "java/lang/invoke/VarHandle") (eT : T.heap = h) (E : Exa Z h a C) (hK : BackQ l R p e below s args z 3 W (.ref a :: argsL).toArray h k n Qc)
    (hg : g.method = m) (hsize : g.locals.size = c.maxLocals) (hlen : ∀ sig, parseMethodDescriptor y.desc = some sig → argsL.length = sig.parameters.length) (hstack : g.stack = argsL.reverse ++ .ref a :: rest) (hW : 2 * g.monitorRoom + (rest.map fun v => v.category).sum ≤ W)
    (hdg : decode c.code g.pc = .ok (.invokevirtual index, 3)) (hc : cells + k ≤ R.cells) (hs : slots + n ≤ R.slots) :
    ∃ v T' L, Stand p l e R s m args below meth c T' (locs ++ L) (cells + k) (slots + n) ∧ Qc v T'.heap L ∧ Steps p.tables e below (T.setTop g) (T'.setTop { g with pc := g.pc + 3, stack := v.toList ++ rest }) := by
  obtain ⟨cB, kB, q1, q2, q3⟩ := isOf hZ eT E
  obtain ⟨v, vm1, ⟨T', L', k', n'⟩, -, X', ⟨L, hQ, rfl, rfl, rfl⟩, st⟩ := X.virtualBack hx hown (mvT hZ w1) (mvT hZ w2) nf (mvT hZ w4) (mvT hZ w5) hyc hK q1 q3 hg hsize (Steps.refl _) hlen hstack hW hdg (fun _ _ => ⟨rfl, eT, hc, hs⟩)
  exact ⟨v, T', L, X', hQ, st⟩
theorem callSt (X : Stand p l e R s m args below meth c T locs cells slots) (hx : p.tables.exec = Jvm.exec) (hZ : Z.Warmed39 s.vm) (hown : s.vm.findClass own = some m.cls) (w1 : (Jvm.Cond.methodLink own index y).before a0 Z = true) (w2 : (Jvm.Cond.static y).before a0 Z = true) (w3 : (Jvm.Cond.initialized y.cls).before a0 Z = true) (w4 : (Jvm.Cond.code y bytes maxL ret).before a0 Z = true)
    (hyc : y.cls ≠ "java/lang/invoke/MethodHandle" ∧ y.cls ≠ "java/lang/invoke/VarHandle") (eT : T.heap = h) (hK : BackQ l R p e below s args y 3 W argsL.toArray h k n Qc)
    (hg : g.method = m) (hsize : g.locals.size = c.maxLocals) (hlen : ∀ sig, parseMethodDescriptor y.desc = some sig → argsL.length = sig.parameters.length) (hstack : g.stack = argsL.reverse ++ rest) (hW : 2 * g.monitorRoom + (rest.map fun v => v.category).sum ≤ W)
    (hdg : decode c.code g.pc = .ok (.invokestatic index, 3)) (hc : cells + k ≤ R.cells) (hs : slots + n ≤ R.slots) :
    ∃ v T' L, Stand p l e R s m args below meth c T' (locs ++ L) (cells + k) (slots + n) ∧ Qc v T'.heap L ∧ Steps p.tables e below (T.setTop g) (T'.setTop { g with pc := g.pc + 3, stack := v.toList ++ rest }) := by
  obtain ⟨v, vm1, ⟨T', L', k', n'⟩, -, X', ⟨L, hQ, rfl, rfl, rfl⟩, st⟩ := Jvm.LawKit.callS X hx hown (mvT hZ w1) (mvT hZ w2) (mvT hZ w3) (mvT hZ w4) hyc hK hg hsize hlen hstack hW hdg (fun _ _ => ⟨rfl, eT, hc, hs⟩)
  exact ⟨v, T', L, X', hQ, st _ (Steps.refl _)⟩
theorem callIf (X : Stand p l e R s m args below meth c T locs cells slots) (hx : p.tables.exec = Jvm.exec) (hZ : Z.Warmed39 s.vm) (hown : s.vm.findClass own = some m.cls) (w1 : (Jvm.Cond.methodLink own index y).before a0 Z = true) (w2 : (Jvm.Cond.declares y).before a0 Z = true) (w3 : (Jvm.Cond.interfaceMethod y.cls y.cls y.name y.desc).before a0 Z = true) (h3 : ((Jvm.Cond.interfaceMethod y.cls y.cls y.name y.desc).onTables && (Jvm.Cond.interfaceMethod y.cls y.cls y.name y.desc).keepsFace) = true) (w4 : (Jvm.Cond.selects C y z).before a0 Z = true) (w5 : (Jvm.Cond.instanceMethod z).before a0 Z = true)
    (w6 : (Jvm.Cond.publicMethod z).before a0 Z = true) (w7 : (Jvm.Cond.unhidden C y.name y.desc).before a0 Z = true) (w8 : (Jvm.Cond.castable C y.cls).before a0 Z = true)
    (hyc : y.cls ≠ "java/lang/invoke/MethodHandle" ∧ y.cls ≠ "java/lang/invoke/VarHandle") (eT : T.heap = h) (E : Exa Z h a C) (hK : BackQ l R p e below s args z 5 W (.ref a :: argsL).toArray h k n Qc)
    (hg : g.method = m) (hsize : g.locals.size = c.maxLocals) (hlen : ∀ sig, parseMethodDescriptor y.desc = some sig → argsL.length = sig.parameters.length) (hstack : g.stack = argsL.reverse ++ .ref a :: rest) (hW : 2 * g.monitorRoom + (rest.map fun v => v.category).sum ≤ W)
    (hdg : decode c.code g.pc = .ok (.invokeinterface index count, 5)) (hc : cells + k ≤ R.cells) (hs : slots + n ≤ R.slots) :
    ∃ v T' L, Stand p l e R s m args below meth c T' (locs ++ L) (cells + k) (slots + n) ∧ Qc v T'.heap L ∧ Steps p.tables e below (T.setTop g) (T'.setTop { g with pc := g.pc + 5, stack := v.toList ++ rest }) := by
  obtain ⟨cB, kB, q1, q2, q3⟩ := isOf hZ eT E
  obtain ⟨v, vm1, ⟨T', L', k', n'⟩, -, X', ⟨L, hQ, rfl, rfl, rfl⟩, st⟩ := X.interfaceBack hx hown (mvT hZ w1) (mvT hZ w2) (mvT hZ w3 h3) (mvT hZ w4) (mvT hZ w5) (mvT hZ w6) (mvT hZ w7) (mvT hZ w8) hyc hK q1 q2 q3 hg hsize (Steps.refl _) hlen hstack hW hdg (fun _ _ => ⟨rfl, eT, hc, hs⟩)
  exact ⟨v, T', L, X', hQ, st⟩
/-- what stands behind a call that may have interned -/
def AfterS (p : Program) (l : Launch) (e : Env) (R : Room) (s : State) (m : MethodId) (args : Array Value) (below : List Frame) (meth : Method) (c : Code) (Z : State) (EL : List (String × Nat)) (own : String) (vm0 : Vm) (h : Heap) (T' : State) (locs : List Loc) (cells slots : Nat) : Prop :=
  Stand p l e R (s.setVm T'.vm) m args below meth c T' locs cells slots ∧ s.Since T'.vm T'.heap.size ∧ Z.Warmed39 T'.vm ∧ T'.vm.findClass own = some m.cls ∧ CHr Z EL vm0 h T'.vm T'.heap
theorem callSpS (X : Stand p l e R (s.setVm vm0) m args below meth c T locs cells slots) (hx : p.tables.exec = Jvm.exec) (hZ : Z.Warmed39 vm0) (hown : vm0.findClass own = some m.cls) (hS : s.Since vm0 n0) (hk : n0 ≤ h.size) (hy1 : y.name = "<init>") (w1 : (Jvm.Cond.methodLink own index y).before a0 Z = true) (w2 : (Jvm.Cond.instanceMethod y).before a0 Z = true) (w3 : (Jvm.Cond.code y bytes maxL none).before a0 Z = true)
    (hyc : y.cls ≠ "java/lang/invoke/MethodHandle" ∧ y.cls ≠ "java/lang/invoke/VarHandle") (eT : T.heap = h) (hK : BackSQ l R p e below s vm0 args y 3 W (.ref a :: argsL).toArray h k n Z EL Qc)
    (hg : g.method = m) (hsize : g.locals.size = c.maxLocals) (hlen : ∀ sig, parseMethodDescriptor y.desc = some sig → argsL.length = sig.parameters.length) (hstack : g.stack = argsL.reverse ++ .ref a :: rest) (hW : 2 * g.monitorRoom + (rest.map fun v => v.category).sum ≤ W)
    (hdg : decode c.code g.pc = .ok (.invokespecial index, 3)) (hc : cells + k ≤ R.cells) (hs : slots + n ≤ R.slots) :
    ∃ v T' L, AfterS p l e R s m args below meth c Z EL own vm0 h T' (locs ++ L) (cells + k) (slots + n) ∧ Qc v T'.heap L ∧ Steps p.tables e below (T.setTop g) (T'.setTop { g with pc := g.pc + 3, stack := v.toList ++ rest }) := by
  obtain ⟨v, vm1, ⟨T', L', k', n'⟩, -, X', h2, gr, ⟨L, hQ, rfl, rfl, rfl, hC⟩, st⟩ := X.specialBackS hx hy1 hown (mvT hZ w1) (mvT hZ w2) (mvT hZ w3) hyc hK hg hsize (Steps.refl _) hlen hstack hW hdg (fun _ _ => ⟨rfl, eT, hc, hs⟩)
  obtain ⟨b1, b2, b3, b4⟩ := rebS hS (eT ▸ hk) X' h2 gr hZ hown
  exact ⟨v, T', L, ⟨b1, b2, b3, b4, hC⟩, hQ, st⟩
theorem callViS (X : Stand p l e R (s.setVm vm0) m args below meth c T locs cells slots) (hx : p.tables.exec = Jvm.exec) (hZ : Z.Warmed39 vm0) (hown : vm0.findClass own = some m.cls) (hS : s.Since vm0 n0) (hk : n0 ≤ h.size) (w1 : (Jvm.Cond.methodLink own index y).before a0 Z = true) (w2 : (Jvm.Cond.declares y).before a0 Z = true) (nf : NotFace (s.setVm vm0) y) (w4 : (Jvm.Cond.selects C y z).before a0 Z = true) (w5 : (Jvm.Cond.instanceMethod z).before a0 Z = true)
    (hyc : y.cls ≠ "java/lang/invoke/MethodHandle" ∧ y.cls ≠ "java/lang/invoke/VarHandle") (eT : T.heap = h) (E : Exa Z h a C) (hK : BackSQ l R p e below s vm0 args z 3 W (.ref a :: argsL).toArray h k n Z EL Qc)
    (hg : g.method = m) (hsize : g.locals.size = c.maxLocals) (hlen : ∀ sig, parseMethodDescriptor y.desc = some sig → argsL.length = sig.parameters.length) (hstack : g.stack = argsL.reverse ++ .ref a :: rest) (hW : 2 * g.monitorRoom + (rest.map fun v => v.category).sum ≤ W)
    (hdg : decode c.code g.pc = .ok (.invokevirtual index, 3)) (hc : cells + k ≤ R.cells) (hs : slots + n ≤ R.slots) :
    ∃ v T' L, AfterS p l e R s m args below meth c Z EL own vm0 h T' (locs ++ L) (cells + k) (slots + n) ∧ Qc v T'.heap L ∧ Steps p.tables e below (T.setTop g) (T'.setTop { g with pc := g.pc + 3, stack := v.toList ++ rest }) := by
  obtain ⟨cB, kB, q1, q2, q3⟩ := isOf (s := s.setVm vm0) hZ eT E
  obtain ⟨v, vm1, ⟨T', L', k', n'⟩, -, X', h2, gr, ⟨L, hQ, rfl, rfl, rfl, hC⟩, st⟩ := X.virtualBackS hx hown (mvT hZ w1) (mvT hZ w2) nf (mvT hZ w4) (mvT hZ w5) hyc hK q1 q3 hg hsize (Steps.refl _) hlen hstack hW hdg (fun _ _ => ⟨rfl, eT, hc, hs⟩)
  obtain ⟨b1, b2, b3, b4⟩ := rebS hS (eT ▸ hk) X' h2 gr hZ hown
  exact ⟨v, T', L, ⟨b1, b2, b3, b4, hC⟩, hQ, st⟩
theorem callStS (X : Stand p l e R (s.setVm vm0) m args below meth c T locs cells slots) (hx : p.tables.exec = Jvm.exec) (hZ : Z.Warmed39 vm0) (hown : vm0.findClass own = some m.cls) (hS : s.Since vm0 n0) (hk : n0 ≤ h.size) (w1 : (Jvm.Cond.methodLink own index y).before a0 Z = true) (w2 : (Jvm.Cond.static y).before a0 Z = true) (w3 : (Jvm.Cond.initialized y.cls).before a0 Z = true) (w4 : (Jvm.Cond.code y bytes maxL ret).before a0 Z = true)
    (hyc : y.cls ≠ "java/lang/invoke/MethodHandle" ∧ y.cls ≠ "java/lang/invoke/VarHandle") (eT : T.heap = h) (hK : BackSQ l R p e below s vm0 args y 3 W argsL.toArray h k n Z EL Qc)
    (hg : g.method = m) (hsize : g.locals.size = c.maxLocals) (hlen : ∀ sig, parseMethodDescriptor y.desc = some sig → argsL.length = sig.parameters.length) (hstack : g.stack = argsL.reverse ++ rest) (hW : 2 * g.monitorRoom + (rest.map fun v => v.category).sum ≤ W)
    (hdg : decode c.code g.pc = .ok (.invokestatic index, 3)) (hc : cells + k ≤ R.cells) (hs : slots + n ≤ R.slots) :
    ∃ v T' L, AfterS p l e R s m args below meth c Z EL own vm0 h T' (locs ++ L) (cells + k) (slots + n) ∧ Qc v T'.heap L ∧ Steps p.tables e below (T.setTop g) (T'.setTop { g with pc := g.pc + 3, stack := v.toList ++ rest }) := by
  obtain ⟨v, vm1, ⟨T', L', k', n'⟩, -, X', h2, gr, ⟨L, hQ, rfl, rfl, rfl, hC⟩, st⟩ := callSS X hx hown (mvT hZ w1) (mvT hZ w2) (mvT hZ w3) (mvT hZ w4) hyc hK hg hsize hlen hstack hW hdg (fun _ _ => ⟨rfl, eT, hc, hs⟩)
  obtain ⟨b1, b2, b3, b4⟩ := rebS hS (eT ▸ hk) X' h2 gr hZ hown
  exact ⟨v, T', L, ⟨b1, b2, b3, b4, hC⟩, hQ, st⟩
end Calls
section Arrays
variable {p : Program} {l : Launch} {e : Env} {R : Room} {s : State} {m : MethodId} {args : Array Value} {below : List Frame} {meth : Method} {c : Code} {T : State} {locs : List Loc} {cells slots : Nat} {Z : State} {a0 : Array Value} {h : Heap} {g : JFrame} {rest : List Value} {a : Addr} {k : ClassId} {ty : FieldType} {z j x x' : Int32} {i : Nat} {vs : List Value} {d v : Value}
theorem newArr (X : Stand p l e R s m args below meth c T locs cells slots) (hx : p.tables.exec = Jvm.exec) (hZ : Z.Warmed39 s.vm) {aty : ArrayType} (w : (Jvm.Cond.arrayClass (newarray.typeOf aty)).before a0 Z = true) (eT : T.heap = h) (hg : g.method = m) (hd : decode c.code g.pc = .ok (.newarray aty, 2)) {n : Int32} (hs : g.stack = .int n :: rest)
    (hn : ¬ n < 0) {q : Nat} (hq : n.toNatClampNeg = q) (hb : q * 8 ≤ 536870912) (hc : cells + 1 ≤ R.cells) (hl : slots + q ≤ R.slots) :
    ∃ T' h' cA, Stand p l e R s m args below meth c T' locs (cells + 1) (slots + q) ∧ T'.heap = h' ∧ Ext h h' ∧ Arv Z h' h.size cA (newarray.typeOf aty) n (List.replicate q (defaultValue (newarray.typeOf aty))) (defaultValue (newarray.typeOf aty)) ∧
      ∀ target, Steps p.tables e below (T'.setTop { g with pc := g.pc + 2, stack := .ref h.size :: rest }) target → Steps p.tables e below (T.setTop g) target := by
  obtain ⟨T', h', cA, X', e', E', A', st⟩ := newP X hx hZ w eT hg hd hs hn (cap := q) (Nat.le_of_eq hq) hb hc hl
  exact ⟨T', h', cA, X', e', E', (Arv.new A' hn).pad (fun i => by have := pad_rep [] (defaultValue (newarray.typeOf aty)) q i; simpa using this), st⟩
theorem setC (X : Stand p l e R s m args below meth c T locs cells slots) (hx : p.tables.exec = Jvm.exec) (hZ : Z.Warmed39 s.vm) (eT : T.heap = h) (A : Arv Z h a k .char z vs d) (hj : j.toNatClampNeg = i) (h0 : ¬ j < 0) (hjz : j < z) (hi : i < vs.length) (hn : nar .char x = x') (hg : g.method = m) (hs : g.stack = .int x :: .int j :: .ref a :: rest) (hd : decode c.code g.pc = .ok (.castore, 1)) :
    ∃ T' h', Stand p l e R s m args below meth c T' (locs ++ [⟨a, i⟩]) cells slots ∧ T'.heap = h' ∧ Wr h h' a i (.int x') ∧ Arv Z h' a k .char z (vs.set i (.int x')) d ∧ ∀ target, Steps p.tables e below (T'.setTop { g with pc := g.pc + 1, stack := rest }) target → Steps p.tables e below (T.setTop g) target := by
  subst hj hn
  obtain ⟨cl, A1, A2, A3, A4, A5, A6⟩ := A
  obtain ⟨T', h', X', e', W', st⟩ := stC X hx hZ eT A1 (inb_of A3 ⟨h0, hjz⟩) hg hs hd
  exact ⟨T', h', X', e', W', Arv.set A1 A2 A3 A4 A5 A6 (fits_nar_char x) W' _ rfl hi, st⟩
theorem setB (X : Stand p l e R s m args below meth c T locs cells slots) (hx : p.tables.exec = Jvm.exec) (hZ : Z.Warmed39 s.vm) (eT : T.heap = h) (A : Arv Z h a k .byte z vs d) (hj : j.toNatClampNeg = i) (h0 : ¬ j < 0) (hjz : j < z) (hi : i < vs.length) (hn : nar .byte x = x') (hg : g.method = m) (hs : g.stack = .int x :: .int j :: .ref a :: rest) (hd : decode c.code g.pc = .ok (.bastore, 1)) :
    ∃ T' h', Stand p l e R s m args below meth c T' (locs ++ [⟨a, i⟩]) cells slots ∧ T'.heap = h' ∧ Wr h h' a i (.int x') ∧ Arv Z h' a k .byte z (vs.set i (.int x')) d ∧ ∀ target, Steps p.tables e below (T'.setTop { g with pc := g.pc + 1, stack := rest }) target → Steps p.tables e below (T.setTop g) target := by
  subst hj hn
  obtain ⟨cl, A1, A2, A3, A4, A5, A6⟩ := A
  obtain ⟨T', h', X', e', W', st⟩ := stB X hx hZ eT A1 (inb_of A3 ⟨h0, hjz⟩) hg hs hd
  exact ⟨T', h', X', e', W', Arv.set A1 A2 A3 A4 A5 A6 (fits_nar_byte x) W' _ rfl hi, st⟩
theorem ldC (X : Stand p l e R s m args below meth c T locs cells slots) (hx : p.tables.exec = Jvm.exec) (hZ : Z.Warmed39 s.vm) (eT : T.heap = h) (A : Arv Z h a k .char z vs d) (hj : j.toNatClampNeg = i) (h0 : ¬ j < 0) (hjz : j < z) (hv : vs.getD i d = v) (hg : g.method = m) (hs : g.stack = .int j :: .ref a :: rest) (hd : decode c.code g.pc = .ok (.caload, 1)) :
    ∀ target, Steps p.tables e below (T.setTop { g with pc := g.pc + 1, stack := v :: rest }) target → Steps p.tables e below (T.setTop g) target := by
  subst hj hv
  obtain ⟨cl, A1, A2, A3, A4, A5, A6⟩ := A
  exact X.caload hx (by rw [eT]; exact A1.1) (State.isArrayOf_alike hZ.alike A1.2.1) A1.2.2 (inb_of A3 ⟨h0, hjz⟩) (A5.at (inb_of A3 ⟨h0, hjz⟩) rfl) hg hs hd
theorem ldB (X : Stand p l e R s m args below meth c T locs cells slots) (hx : p.tables.exec = Jvm.exec) (hZ : Z.Warmed39 s.vm) (eT : T.heap = h) (A : Arv Z h a k .byte z vs d) (hj : j.toNatClampNeg = i) (h0 : ¬ j < 0) (hjz : j < z) (hv : vs.getD i d = v) (hg : g.method = m) (hs : g.stack = .int j :: .ref a :: rest) (hd : decode c.code g.pc = .ok (.baload, 1)) :
    ∀ target, Steps p.tables e below (T.setTop { g with pc := g.pc + 1, stack := v :: rest }) target → Steps p.tables e below (T.setTop g) target := by
  subst hj hv
  obtain ⟨cl, A1, A2, A3, A4, A5, A6⟩ := A
  exact X.baloadBytes hx (by rw [eT]; exact A1.1) (State.isArrayOf_alike hZ.alike A1.2.1) A1.2.2 (inb_of A3 ⟨h0, hjz⟩) (A5.at (inb_of A3 ⟨h0, hjz⟩) rfl) hg hs hd
theorem alen (X : Stand p l e R s m args below meth c T locs cells slots) (hx : p.tables.exec = Jvm.exec) (hZ : Z.Warmed39 s.vm) (eT : T.heap = h) (A : Arv Z h a k ty z vs d) (hg : g.method = m) (hs : g.stack = .ref a :: rest) (hd : decode c.code g.pc = .ok (.arraylength, 1)) :
    ∀ target, Steps p.tables e below (T.setTop { g with pc := g.pc + 1, stack := .int z :: rest }) target → Steps p.tables e below (T.setTop g) target := fun t ht => by
  obtain ⟨cl, A1, A2, A3, A4, A5, A6⟩ := A
  refine X.arraylength hx (by rw [eT]; exact A1.1) (State.isArrayOf_alike hZ.alike A1.2.1) hg hs hd t ?_
  rw [len_of A3 A4]; exact ht
end Arrays
end Jvm.OwnKit

namespace Jvm.OwnKit
open Jvm Jvm.ClassFile Sem Op Lib Jvm.Free Jvm.Stand Jvm.LawKit Jvm.RoadKit Bundle
section Steps1
variable {p : Program} {l : Launch} {e : Env} {R : Room} {s : State} {m : MethodId} {args : Array Value} {below : List Frame} {meth : Method} {c : Code} {T : State} {locs : List Loc} {cells slots : Nat} {Z : State} {a0 : Array Value} {EL : List (String × Nat)} {h : Heap} {Q : Outcome → State → Prop} {pc q : Nat} {Ls Ls' : Array Slot} {st : List Value} {x y z : Int32} {jx jy jz : Int64} {a : Addr} {v w : Value} {k : Nat} {k4 : Fin 4} {i : Nat} {vs : List Value} {d : Value} {ty : FieldType} {kc : ClassId} {own C O f dd : String} {index : Nat}
theorem aL (X : Stand p l e R s m args below meth c T locs cells slots) (hx : p.tables.exec = Jvm.exec) (hd : decode c.code pc = .ok (.aload_n k4, 1)) (hq : pc + 1 = q) (hl : Ls[k4.val]? = some (.val v)) (hv : v.isRef = true) (kk : Go p.tables e below Q (T.setTop (mkF m q Ls (v :: st)))) : Go p.tables e below Q (T.setTop (mkF m pc Ls st)) := by
  subst hq; exact Go.st (XS.aloadN X.here hx rfl hd hl hv) kk
theorem aLw (X : Stand p l e R s m args below meth c T locs cells slots) (hx : p.tables.exec = Jvm.exec) (hd : decode c.code pc = .ok (.aload k, 2)) (hq : pc + 2 = q) (hl : Ls[k]? = some (.val v)) (hv : v.isRef = true) (kk : Go p.tables e below Q (T.setTop (mkF m q Ls (v :: st)))) : Go p.tables e below Q (T.setTop (mkF m pc Ls st)) := by
  subst hq; exact Go.st (XS.aload X.here hx rfl hd hl hv) kk
theorem iL (X : Stand p l e R s m args below meth c T locs cells slots) (hx : p.tables.exec = Jvm.exec) (hd : decode c.code pc = .ok (.iload_n k4, 1)) (hq : pc + 1 = q) (hl : Ls[k4.val]? = some (.val (.int x))) (kk : Go p.tables e below Q (T.setTop (mkF m q Ls (.int x :: st)))) : Go p.tables e below Q (T.setTop (mkF m pc Ls st)) := by
  subst hq; exact Go.st (XS.iloadN X.here hx rfl hd hl) kk
theorem iLw (X : Stand p l e R s m args below meth c T locs cells slots) (hx : p.tables.exec = Jvm.exec) (hd : decode c.code pc = .ok (.iload k, 2)) (hq : pc + 2 = q) (hl : Ls[k]? = some (.val (.int x))) (kk : Go p.tables e below Q (T.setTop (mkF m q Ls (.int x :: st)))) : Go p.tables e below Q (T.setTop (mkF m pc Ls st)) := by
  subst hq; exact Go.st (XS.iload X.here hx rfl hd hl) kk
theorem lL (X : Stand p l e R s m args below meth c T locs cells slots) (hx : p.tables.exec = Jvm.exec) (hd : decode c.code pc = .ok (.lload_n k4, 1)) (hq : pc + 1 = q) (hl : Ls[k4.val]? = some (.val (.long jx))) (kk : Go p.tables e below Q (T.setTop (mkF m q Ls (.long jx :: st)))) : Go p.tables e below Q (T.setTop (mkF m pc Ls st)) := by
  subst hq; exact Go.st (XS.lloadN X.here hx rfl hd hl) kk
theorem sI (X : Stand p l e R s m args below meth c T locs cells slots) (hx : p.tables.exec = Jvm.exec) (hd : decode c.code pc = .ok (.istore_n k4, 1)) (hq : pc + 1 = q) (hl : storeLocals Ls k4.val (.int x) = some Ls') (kk : Go p.tables e below Q (T.setTop (mkF m q Ls' st))) : Go p.tables e below Q (T.setTop (mkF m pc Ls (.int x :: st))) := by
  subst hq; exact Go.st (XS.istoreN X.here hx rfl hd rfl hl) kk
theorem sIw (X : Stand p l e R s m args below meth c T locs cells slots) (hx : p.tables.exec = Jvm.exec) (hd : decode c.code pc = .ok (.istore k, 2)) (hq : pc + 2 = q) (hl : storeLocals Ls k (.int x) = some Ls') (kk : Go p.tables e below Q (T.setTop (mkF m q Ls' st))) : Go p.tables e below Q (T.setTop (mkF m pc Ls (.int x :: st))) := by
  subst hq; exact Go.st (XS.istore X.here hx rfl hd rfl hl) kk
theorem sA (X : Stand p l e R s m args below meth c T locs cells slots) (hx : p.tables.exec = Jvm.exec) (hd : decode c.code pc = .ok (.astore_n k4, 1)) (hq : pc + 1 = q) (hv : v.isRef = true) (hl : storeLocals Ls k4.val v = some Ls') (kk : Go p.tables e below Q (T.setTop (mkF m q Ls' st))) : Go p.tables e below Q (T.setTop (mkF m pc Ls (v :: st))) := by
  subst hq; exact Go.st (XS.astoreN X.here hx rfl hd rfl hv hl) kk
theorem sAw (X : Stand p l e R s m args below meth c T locs cells slots) (hx : p.tables.exec = Jvm.exec) (hd : decode c.code pc = .ok (.astore k, 2)) (hq : pc + 2 = q) (hv : v.isRef = true) (hl : storeLocals Ls k v = some Ls') (kk : Go p.tables e below Q (T.setTop (mkF m q Ls' st))) : Go p.tables e below Q (T.setTop (mkF m pc Ls (v :: st))) := by
  subst hq; exact Go.st (XS.astore X.here hx rfl hd rfl hv hl) kk
theorem cI (X : Stand p l e R s m args below meth c T locs cells slots) (hx : p.tables.exec = Jvm.exec) {j : Int} (hd : decode c.code pc = .ok (.iconst j, 1)) (hq : pc + 1 = q) (hz : Int32.ofInt j = z) (kk : Go p.tables e below Q (T.setTop (mkF m q Ls (.int z :: st)))) : Go p.tables e below Q (T.setTop (mkF m pc Ls st)) := by
  subst hq hz; exact Go.st (XS.iconst X.here hx rfl hd) kk
theorem bI (X : Stand p l e R s m args below meth c T locs cells slots) (hx : p.tables.exec = Jvm.exec) {j : Int} (hd : decode c.code pc = .ok (.bipush j, 2)) (hq : pc + 2 = q) (hz : (Int8.ofInt j).toInt32 = z) (kk : Go p.tables e below Q (T.setTop (mkF m q Ls (.int z :: st)))) : Go p.tables e below Q (T.setTop (mkF m pc Ls st)) := by
  subst hq hz; exact Go.st (XS.bipush X.here hx rfl hd) kk
theorem pI (X : Stand p l e R s m args below meth c T locs cells slots) (hx : p.tables.exec = Jvm.exec) {j : Int} (hd : decode c.code pc = .ok (.sipush j, 3)) (hq : pc + 3 = q) (hz : (Int16.ofInt j).toInt32 = z) (kk : Go p.tables e below Q (T.setTop (mkF m q Ls (.int z :: st)))) : Go p.tables e below Q (T.setTop (mkF m pc Ls st)) := by
  subst hq hz; exact Go.st (XS.sipush X.here hx rfl hd) kk
theorem cN (X : Stand p l e R s m args below meth c T locs cells slots) (hx : p.tables.exec = Jvm.exec) (hd : decode c.code pc = .ok (.aconst_null, 1)) (hq : pc + 1 = q) (kk : Go p.tables e below Q (T.setTop (mkF m q Ls (.null :: st)))) : Go p.tables e below Q (T.setTop (mkF m pc Ls st)) := by
  subst hq; exact Go.st (XS.aconstNull X.here hx rfl hd) kk
theorem g_iadd (X : Stand p l e R s m args below meth c T locs cells slots) (hx : p.tables.exec = Jvm.exec) (hd : decode c.code pc = .ok (.iadd, 1)) (hq : pc + 1 = q) (hz : x + y = z) (kk : Go p.tables e below Q (T.setTop (mkF m q Ls (.int z :: st)))) : Go p.tables e below Q (T.setTop (mkF m pc Ls (.int y :: .int x :: st))) := by
  subst hq hz; exact Go.st (XS.iadd X.here hx rfl hd rfl) kk
theorem g_isub (X : Stand p l e R s m args below meth c T locs cells slots) (hx : p.tables.exec = Jvm.exec) (hd : decode c.code pc = .ok (.isub, 1)) (hq : pc + 1 = q) (hz : x - y = z) (kk : Go p.tables e below Q (T.setTop (mkF m q Ls (.int z :: st)))) : Go p.tables e below Q (T.setTop (mkF m pc Ls (.int y :: .int x :: st))) := by
  subst hq hz; exact Go.st (XS.isub X.here hx rfl hd rfl) kk
theorem g_iand (X : Stand p l e R s m args below meth c T locs cells slots) (hx : p.tables.exec = Jvm.exec) (hd : decode c.code pc = .ok (.iand, 1)) (hq : pc + 1 = q) (hz : x &&& y = z) (kk : Go p.tables e below Q (T.setTop (mkF m q Ls (.int z :: st)))) : Go p.tables e below Q (T.setTop (mkF m pc Ls (.int y :: .int x :: st))) := by
  subst hq hz; exact Go.st (XS.iand X.here hx rfl hd rfl) kk
theorem g_ishr (X : Stand p l e R s m args below meth c T locs cells slots) (hx : p.tables.exec = Jvm.exec) (hd : decode c.code pc = .ok (.ishr, 1)) (hq : pc + 1 = q) (hz : x >>> (y &&& 31) = z) (kk : Go p.tables e below Q (T.setTop (mkF m q Ls (.int z :: st)))) : Go p.tables e below Q (T.setTop (mkF m pc Ls (.int y :: .int x :: st))) := by
  subst hq hz; exact Go.st (XS.ishr X.here hx rfl hd rfl) kk
theorem g_iushr (X : Stand p l e R s m args below meth c T locs cells slots) (hx : p.tables.exec = Jvm.exec) (hd : decode c.code pc = .ok (.iushr, 1)) (hq : pc + 1 = q) (hz : (x.toUInt32 >>> (y &&& 31).toUInt32).toInt32 = z) (kk : Go p.tables e below Q (T.setTop (mkF m q Ls (.int z :: st)))) : Go p.tables e below Q (T.setTop (mkF m pc Ls (.int y :: .int x :: st))) := by
  subst hq hz; exact Go.st (XS.iushr X.here hx rfl hd rfl) kk
theorem g_irem (X : Stand p l e R s m args below meth c T locs cells slots) (hx : p.tables.exec = Jvm.exec) (hd : decode c.code pc = .ok (.irem, 1)) (hq : pc + 1 = q) (hy : y ≠ 0) (hz : x % y = z) (kk : Go p.tables e below Q (T.setTop (mkF m q Ls (.int z :: st)))) : Go p.tables e below Q (T.setTop (mkF m pc Ls (.int y :: .int x :: st))) := by
  subst hq hz; exact Go.st (iremM X hx rfl hd rfl hy) kk
theorem g_lsub (X : Stand p l e R s m args below meth c T locs cells slots) (hx : p.tables.exec = Jvm.exec) (hd : decode c.code pc = .ok (.lsub, 1)) (hq : pc + 1 = q) (hz : jx - jy = jz) (kk : Go p.tables e below Q (T.setTop (mkF m q Ls (.long jz :: st)))) : Go p.tables e below Q (T.setTop (mkF m pc Ls (.long jy :: .long jx :: st))) := by
  subst hq hz; exact Go.st (XS.lsub X.here hx rfl hd rfl) kk
theorem g_land (X : Stand p l e R s m args below meth c T locs cells slots) (hx : p.tables.exec = Jvm.exec) (hd : decode c.code pc = .ok (.land, 1)) (hq : pc + 1 = q) (hz : jx &&& jy = jz) (kk : Go p.tables e below Q (T.setTop (mkF m q Ls (.long jz :: st)))) : Go p.tables e below Q (T.setTop (mkF m pc Ls (.long jy :: .long jx :: st))) := by
  subst hq hz; exact Go.st (XS.land X.here hx rfl hd rfl) kk
theorem g_lushr (X : Stand p l e R s m args below meth c T locs cells slots) (hx : p.tables.exec = Jvm.exec) (hd : decode c.code pc = .ok (.lushr, 1)) (hq : pc + 1 = q) (hz : (jx.toUInt64 >>> (y &&& 0x3f).toInt64.toUInt64).toInt64 = jz) (kk : Go p.tables e below Q (T.setTop (mkF m q Ls (.long jz :: st)))) : Go p.tables e below Q (T.setTop (mkF m pc Ls (.int y :: .long jx :: st))) := by
  subst hq hz; exact Go.st (XS.lushr X.here hx rfl hd rfl) kk
theorem g_lcmp (X : Stand p l e R s m args below meth c T locs cells slots) (hx : p.tables.exec = Jvm.exec) (hd : decode c.code pc = .ok (.lcmp, 1)) (hq : pc + 1 = q) (hz : lcmpW jx jy = z) (kk : Go p.tables e below Q (T.setTop (mkF m q Ls (.int z :: st)))) : Go p.tables e below Q (T.setTop (mkF m pc Ls (.long jy :: .long jx :: st))) := by
  subst hq hz; exact Go.st (XS.lcmp X.here hx rfl hd rfl) kk
theorem g_i2b (X : Stand p l e R s m args below meth c T locs cells slots) (hx : p.tables.exec = Jvm.exec) (hd : decode c.code pc = .ok (.i2b, 1)) (hq : pc + 1 = q) (hz : x.toInt8.toInt32 = z) (kk : Go p.tables e below Q (T.setTop (mkF m q Ls (.int z :: st)))) : Go p.tables e below Q (T.setTop (mkF m pc Ls (.int x :: st))) := by
  subst hq hz; exact Go.st (XS.i2b X.here hx rfl hd rfl) kk
theorem g_i2c (X : Stand p l e R s m args below meth c T locs cells slots) (hx : p.tables.exec = Jvm.exec) (hd : decode c.code pc = .ok (.i2c, 1)) (hq : pc + 1 = q) (hz : x.toUInt32.toUInt16.toUInt32.toInt32 = z) (kk : Go p.tables e below Q (T.setTop (mkF m q Ls (.int z :: st)))) : Go p.tables e below Q (T.setTop (mkF m pc Ls (.int x :: st))) := by
  subst hq hz; exact Go.st (XS.i2c X.here hx rfl hd rfl) kk
theorem g_i2l (X : Stand p l e R s m args below meth c T locs cells slots) (hx : p.tables.exec = Jvm.exec) (hd : decode c.code pc = .ok (.i2l, 1)) (hq : pc + 1 = q) (hz : x.toInt64 = jz) (kk : Go p.tables e below Q (T.setTop (mkF m q Ls (.long jz :: st)))) : Go p.tables e below Q (T.setTop (mkF m pc Ls (.int x :: st))) := by
  subst hq hz; exact Go.st (XS.i2l X.here hx rfl hd rfl) kk
theorem g_l2i (X : Stand p l e R s m args below meth c T locs cells slots) (hx : p.tables.exec = Jvm.exec) (hd : decode c.code pc = .ok (.l2i, 1)) (hq : pc + 1 = q) (hz : jx.toInt32 = z) (kk : Go p.tables e below Q (T.setTop (mkF m q Ls (.int z :: st)))) : Go p.tables e below Q (T.setTop (mkF m pc Ls (.long jx :: st))) := by
  subst hq hz; exact Go.st (XS.l2i X.here hx rfl hd rfl) kk
theorem g_iinc (X : Stand p l e R s m args below meth c T locs cells slots) (hx : p.tables.exec = Jvm.exec) {j : Int} (hd : decode c.code pc = .ok (.iinc k j, 3)) (hq : pc + 3 = q) (hl : Ls[k]? = some (.val (.int x))) (hz : x + Int32.ofInt j = z) (hl2 : storeLocals Ls k (.int z) = some Ls') (kk : Go p.tables e below Q (T.setTop (mkF m q Ls' st))) : Go p.tables e below Q (T.setTop (mkF m pc Ls st)) := by
  subst hq hz; exact Go.st (XS.iinc X.here hx rfl hd hl hl2) kk
theorem g_dup (X : Stand p l e R s m args below meth c T locs cells slots) (hx : p.tables.exec = Jvm.exec) (hd : decode c.code pc = .ok (.dup, 1)) (hq : pc + 1 = q) (hc : v.category = 1) (kk : Go p.tables e below Q (T.setTop (mkF m q Ls (v :: v :: st)))) : Go p.tables e below Q (T.setTop (mkF m pc Ls (v :: st))) := by
  subst hq; exact Go.st (XS.dup X.here hx rfl hd rfl hc) kk
theorem g_dupX1 (X : Stand p l e R s m args below meth c T locs cells slots) (hx : p.tables.exec = Jvm.exec) (hd : decode c.code pc = .ok (.dup_x1, 1)) (hq : pc + 1 = q) (hc : v.category = 1) (hc2 : w.category = 1) (kk : Go p.tables e below Q (T.setTop (mkF m q Ls (v :: w :: v :: st)))) : Go p.tables e below Q (T.setTop (mkF m pc Ls (v :: w :: st))) := by
  subst hq; exact Go.st (XS.dupX1 X.here hx rfl hd rfl hc hc2) kk
theorem g_pop (X : Stand p l e R s m args below meth c T locs cells slots) (hx : p.tables.exec = Jvm.exec) (hd : decode c.code pc = .ok (.pop, 1)) (hq : pc + 1 = q) (hc : v.category = 1) (kk : Go p.tables e below Q (T.setTop (mkF m q Ls st))) : Go p.tables e below Q (T.setTop (mkF m pc Ls (v :: st))) := by
  subst hq; exact Go.st (XS.pop X.here hx rfl hd rfl hc) kk
theorem g_goto (X : Stand p l e R s m args below meth c T locs cells slots) (hx : p.tables.exec = Jvm.exec) {j : Int} (hd : decode c.code pc = .ok (.goto j, 3)) (ho : 0 ≤ (pc : Int) + j) (hp : ((pc : Int) + j).toNat = q) (kk : Go p.tables e below Q (T.setTop (mkF m q Ls st))) : Go p.tables e below Q (T.setTop (mkF m pc Ls st)) := by
  exact Go.st (XS.goto X.here hx rfl rfl hd ho hp) kk
theorem ifY (X : Stand p l e R s m args below meth c T locs cells slots) (hx : p.tables.exec = Jvm.exec) {j : Int} {cd : ClassFile.Cond} (hd : decode c.code pc = .ok (.ifCond cd j, 3)) (ho : 0 ≤ (pc : Int) + j) (hp : ((pc : Int) + j).toNat = q) (hc : ifCond.holds cd x = true) (kk : Go p.tables e below Q (T.setTop (mkF m q Ls st))) : Go p.tables e below Q (T.setTop (mkF m pc Ls (.int x :: st))) := by
  exact Go.st (XS.ifYes X.here hx rfl rfl hd rfl hc ho hp) kk
theorem ifN (X : Stand p l e R s m args below meth c T locs cells slots) (hx : p.tables.exec = Jvm.exec) {j : Int} {cd : ClassFile.Cond} (hd : decode c.code pc = .ok (.ifCond cd j, 3)) (hq : pc + 3 = q) (hc : ifCond.holds cd x = false) (kk : Go p.tables e below Q (T.setTop (mkF m q Ls st))) : Go p.tables e below Q (T.setTop (mkF m pc Ls (.int x :: st))) := by
  subst hq; exact Go.st (XS.ifNo X.here hx rfl hd rfl hc) kk
theorem icY (X : Stand p l e R s m args below meth c T locs cells slots) (hx : p.tables.exec = Jvm.exec) {j : Int} {cd : ClassFile.Cond} (hd : decode c.code pc = .ok (.if_icmp cd j, 3)) (ho : 0 ≤ (pc : Int) + j) (hp : ((pc : Int) + j).toNat = q) (hc : if_icmp.holds cd x y = true) (kk : Go p.tables e below Q (T.setTop (mkF m q Ls st))) : Go p.tables e below Q (T.setTop (mkF m pc Ls (.int y :: .int x :: st))) := by
  exact Go.st (XS.icmpYes X.here hx rfl rfl hd rfl hc ho hp) kk
theorem icN (X : Stand p l e R s m args below meth c T locs cells slots) (hx : p.tables.exec = Jvm.exec) {j : Int} {cd : ClassFile.Cond} (hd : decode c.code pc = .ok (.if_icmp cd j, 3)) (hq : pc + 3 = q) (hc : if_icmp.holds cd x y = false) (kk : Go p.tables e below Q (T.setTop (mkF m q Ls st))) : Go p.tables e below Q (T.setTop (mkF m pc Ls (.int y :: .int x :: st))) := by
  subst hq; exact Go.st (XS.icmpNo X.here hx rfl hd rfl hc) kk
theorem g_acmp (X : Stand p l e R s m args below meth c T locs cells slots) (hx : p.tables.exec = Jvm.exec) {j : Int} {cd : ACond} (hd : decode c.code pc = .ok (.if_acmp cd j, 3)) (h1 : v.isRef = true) (h2 : w.isRef = true) {same : Bool} (hs : decide (v = w) = same) (ho : 0 ≤ (pc : Int) + j) (hp : q = if acV cd same = true then ((pc : Int) + j).toNat else pc + 3) (kk : Go p.tables e below Q (T.setTop (mkF m q Ls st))) : Go p.tables e below Q (T.setTop (mkF m pc Ls (w :: v :: st))) := by
  exact Go.st (acmp X hx rfl h1 h2 rfl hd rfl hs ho hp) kk
theorem g_new (X : Stand p l e R s m args below meth c T locs cells slots) (hx : p.tables.exec = Jvm.exec) (hZ : Z.Warmed39 s.vm) (hown : s.vm.findClass own = some m.cls) (w1 : (Jvm.Cond.classLink own index C).before a0 Z = true) (w2 : (Jvm.Cond.instantiable C k).before a0 Z = true) (w3 : (Jvm.Cond.initialized C).before a0 Z = true) (hc : cells + 1 ≤ R.cells) (hl : slots + k ≤ R.slots) (eT : T.heap = h) (hd : decode c.code pc = .ok (.new index, 3)) (hq : pc + 3 = q) (kk : ∀ (T' : State) (h' : Heap) (b : Addr), b = h.size → Stand p l e R s m args below meth c T' locs (cells + 1) (slots + k) → T'.heap = h' → Ext h h' → Exa Z h' b C → (∀ {O nm d : String} {ty : FieldType}, Laid Z a0 C O nm d → parseFieldDescriptor d = some ty → Fld Z h' b O nm d (defaultValue ty)) → Go p.tables e below Q (T'.setTop (mkF m q Ls (.ref b :: st)))) : Go p.tables e below Q (T.setTop (mkF m pc Ls st)) := by
  subst hq
  obtain ⟨T', h', X', e', E', A', D', -, st'⟩ := newO X hx hZ hown w1 w2 w3 eT (g := mkF m pc Ls st) rfl hd hc hl
  exact Go.to st' (kk T' h' _ rfl X' e' E' A' D')
theorem g_newA (X : Stand p l e R s m args below meth c T locs cells slots) (hx : p.tables.exec = Jvm.exec) (hZ : Z.Warmed39 s.vm) {aty : ArrayType} (w1 : (Jvm.Cond.arrayClass (newarray.typeOf aty)).before a0 Z = true) (hn : ¬ z < 0) {n : Nat} (hk : z.toNatClampNeg = n) (hb : n * 8 ≤ 536870912) (hc : cells + 1 ≤ R.cells) (hl : slots + n ≤ R.slots) (eT : T.heap = h) (hd : decode c.code pc = .ok (.newarray aty, 2)) (hq : pc + 2 = q) (kk : ∀ (T' : State) (h' : Heap) (kc : ClassId) (b : Addr), b = h.size → Stand p l e R s m args below meth c T' locs (cells + 1) (slots + n) → T'.heap = h' → Ext h h' → Arv Z h' b kc (newarray.typeOf aty) z (List.replicate n (defaultValue (newarray.typeOf aty))) (defaultValue (newarray.typeOf aty)) → Go p.tables e below Q (T'.setTop (mkF m q Ls (.ref b :: st)))) : Go p.tables e below Q (T.setTop (mkF m pc Ls (.int z :: st))) := by
  subst hq
  obtain ⟨T', h', kc, X', e', E', V', st'⟩ := newArr X hx hZ w1 eT (g := mkF m pc Ls (.int z :: st)) rfl hd rfl hn hk hb hc hl
  exact Go.to st' (kk T' h' kc _ rfl X' e' E' V')
theorem g_stC (X : Stand p l e R s m args below meth c T locs cells slots) (hx : p.tables.exec = Jvm.exec) (hZ : Z.Warmed39 s.vm) (A : Arv Z h a kc .char z vs d) {j : Int32} (hj : j.toNatClampNeg = i) (h0 : ¬ j < 0) (hjz : j < z) (hi : i < vs.length) (hn : nar .char x = y) (eT : T.heap = h) (hd : decode c.code pc = .ok (.castore, 1)) (hq : pc + 1 = q) (kk : ∀ (T' : State) (h' : Heap), Stand p l e R s m args below meth c T' (locs ++ [⟨a, i⟩]) cells slots → T'.heap = h' → Wr h h' a i (.int y) → Arv Z h' a kc .char z (vs.set i (.int y)) d → Go p.tables e below Q (T'.setTop (mkF m q Ls st))) : Go p.tables e below Q (T.setTop (mkF m pc Ls (.int x :: .int j :: .ref a :: st))) := by
  subst hq
  obtain ⟨T', h', X', e', W', V', st'⟩ := setC X hx hZ eT A hj h0 hjz hi hn (g := mkF m pc Ls (.int x :: .int j :: .ref a :: st)) rfl rfl hd
  exact Go.to st' (kk T' h' X' e' W' V')
theorem g_stB (X : Stand p l e R s m args below meth c T locs cells slots) (hx : p.tables.exec = Jvm.exec) (hZ : Z.Warmed39 s.vm) (A : Arv Z h a kc .byte z vs d) {j : Int32} (hj : j.toNatClampNeg = i) (h0 : ¬ j < 0) (hjz : j < z) (hi : i < vs.length) (hn : nar .byte x = y) (eT : T.heap = h) (hd : decode c.code pc = .ok (.bastore, 1)) (hq : pc + 1 = q) (kk : ∀ (T' : State) (h' : Heap), Stand p l e R s m args below meth c T' (locs ++ [⟨a, i⟩]) cells slots → T'.heap = h' → Wr h h' a i (.int y) → Arv Z h' a kc .byte z (vs.set i (.int y)) d → Go p.tables e below Q (T'.setTop (mkF m q Ls st))) : Go p.tables e below Q (T.setTop (mkF m pc Ls (.int x :: .int j :: .ref a :: st))) := by
  subst hq
  obtain ⟨T', h', X', e', W', V', st'⟩ := setB X hx hZ eT A hj h0 hjz hi hn (g := mkF m pc Ls (.int x :: .int j :: .ref a :: st)) rfl rfl hd
  exact Go.to st' (kk T' h' X' e' W' V')
theorem g_ldC (X : Stand p l e R s m args below meth c T locs cells slots) (hx : p.tables.exec = Jvm.exec) (hZ : Z.Warmed39 s.vm) (A : Arv Z h a kc .char z vs d) {j : Int32} (hj : j.toNatClampNeg = i) (h0 : ¬ j < 0) (hjz : j < z) (hv : vs.getD i d = v) (eT : T.heap = h) (hd : decode c.code pc = .ok (.caload, 1)) (hq : pc + 1 = q) (kk : Go p.tables e below Q (T.setTop (mkF m q Ls (v :: st)))) : Go p.tables e below Q (T.setTop (mkF m pc Ls (.int j :: .ref a :: st))) := by
  subst hq
  exact Go.to (ldC X hx hZ eT A hj h0 hjz hv (g := mkF m pc Ls (.int j :: .ref a :: st)) rfl rfl hd) kk
theorem g_ldB (X : Stand p l e R s m args below meth c T locs cells slots) (hx : p.tables.exec = Jvm.exec) (hZ : Z.Warmed39 s.vm) (A : Arv Z h a kc .byte z vs d) {j : Int32} (hj : j.toNatClampNeg = i) (h0 : ¬ j < 0) (hjz : j < z) (hv : vs.getD i d = v) (eT : T.heap = h) (hd : decode c.code pc = .ok (.baload, 1)) (hq : pc + 1 = q) (kk : Go p.tables e below Q (T.setTop (mkF m q Ls (v :: st)))) : Go p.tables e below Q (T.setTop (mkF m pc Ls (.int j :: .ref a :: st))) := by
  subst hq
  exact Go.to (ldB X hx hZ eT A hj h0 hjz hv (g := mkF m pc Ls (.int j :: .ref a :: st)) rfl rfl hd) kk
theorem g_len (X : Stand p l e R s m args below meth c T locs cells slots) (hx : p.tables.exec = Jvm.exec) (hZ : Z.Warmed39 s.vm) (A : Arv Z h a kc ty z vs d) (eT : T.heap = h) (hd : decode c.code pc = .ok (.arraylength, 1)) (hq : pc + 1 = q) (kk : Go p.tables e below Q (T.setTop (mkF m q Ls (.int z :: st)))) : Go p.tables e below Q (T.setTop (mkF m pc Ls (.ref a :: st))) := by
  subst hq
  exact Go.to (alen X hx hZ eT A (g := mkF m pc Ls (.ref a :: st)) rfl rfl hd) kk
theorem g_getF (X : Stand p l e R s m args below meth c T locs cells slots) (hx : p.tables.exec = Jvm.exec) (hZ : Z.Warmed39 s.vm) (hown : s.vm.findClass own = some m.cls) {R0 host : String} (wl : (Jvm.Cond.fieldLink own index R0 f dd).before a0 Z = true ∨ (Jvm.Cond.fieldLinkNest own index R0 f dd host).before a0 Z = true) (via : Via Z R0 O f dd) (F : Fld Z h a O f dd v) (eT : T.heap = h) (hd : decode c.code pc = .ok (.getfield index, 3)) (hq : pc + 3 = q) (kk : ∀ (T' : State), Stand p l e R s m args below meth c T' locs cells slots → T'.heap = h → Go p.tables e below Q (T'.setTop (mkF m q Ls (v :: st)))) : Go p.tables e below Q (T.setTop (mkF m pc Ls (.ref a :: st))) := by
  subst hq
  obtain ⟨T', X', e', st'⟩ := getF X hx hZ hown wl via eT F (g := mkF m pc Ls (.ref a :: st)) rfl rfl hd
  exact Go.to st' (kk T' X' e')
theorem g_putF (X : Stand p l e R s m args below meth c T locs cells slots) (hx : p.tables.exec = Jvm.exec) (hZ : Z.Warmed39 s.vm) (hown : s.vm.findClass own = some m.cls) {R0 host : String} {kk2 : Nat} (wl : (Jvm.Cond.fieldLink own index R0 f dd).before a0 Z = true ∨ (Jvm.Cond.fieldLinkNest own index R0 f dd host).before a0 Z = true) (via : Via Z R0 O f dd) {old : Value} (F : Fld Z h a O f dd old) (E : Exa Z h a C) (L : (Jvm.Cond.lays C O f dd).before a0 Z = true ∨ ((Jvm.Cond.laysFinal C O f dd).before a0 Z = true ∧ own = O ∧ meth.name = "<init>")) (wi : (Jvm.Cond.instantiable C kk2).before a0 Z = true) (hty : parseFieldDescriptor dd = some ty) (hn : narrow ty v = v) (hf : fits ty v = true) (eT : T.heap = h) (hd : decode c.code pc = .ok (.putfield index, 3)) (hq : pc + 3 = q) (kk : ∀ (T' : State) (h' : Heap), Stand p l e R s m args below meth c T' (locs ++ [⟨a, Jvm.RoadKit.slotOf Z O f dd⟩]) cells slots → T'.heap = h' → Wr h h' a (Jvm.RoadKit.slotOf Z O f dd) v → Go p.tables e below Q (T'.setTop (mkF m q Ls st))) : Go p.tables e below Q (T.setTop (mkF m pc Ls (v :: .ref a :: st))) := by
  subst hq
  obtain ⟨T', h', X', e', W', st'⟩ := putF X hx hZ hown wl via eT F E L wi hty hn hf (g := mkF m pc Ls (v :: .ref a :: st)) rfl rfl hd
  exact Go.to st' (kk T' h' X' e' W')
theorem g_getS (X : Stand p l e R s m args below meth c T locs cells slots) (hx : p.tables.exec = Jvm.exec) (hZ : Z.Warmed39 s.vm) (hown : s.vm.findClass own = some m.cls) {R0 host : String} (wl : (Jvm.Cond.fieldLink own index R0 f dd).before a0 Z = true ∨ (Jvm.Cond.fieldLinkNest own index R0 f dd host).before a0 Z = true) (via : Via Z R0 O f dd) (F : Sta Z h O f dd v) (eT : T.heap = h) (hd : decode c.code pc = .ok (.getstatic index, 3)) (hq : pc + 3 = q) (kk : ∀ (T' : State), Stand p l e R s m args below meth c T' locs cells slots → T'.heap = h → Go p.tables e below Q (T'.setTop (mkF m q Ls (v :: st)))) : Go p.tables e below Q (T.setTop (mkF m pc Ls st)) := by
  subst hq
  obtain ⟨T', X', e', st'⟩ := getS2 X hx hZ hown wl via eT F (g := mkF m pc Ls st) rfl hd
  exact Go.to st' (kk T' X' e')
theorem g_cast (X : Stand p l e R s m args below meth c T locs cells slots) (hx : p.tables.exec = Jvm.exec) (hZ : Z.Warmed39 s.vm) (hown : s.vm.findClass own = some m.cls) {K : String} (w1 : (Jvm.Cond.classLink own index K).before a0 Z = true) (I : Ins Z h a K true) (eT : T.heap = h) (hd : decode c.code pc = .ok (.checkcast index, 3)) (hq : pc + 3 = q) (kk : ∀ (T' : State), Stand p l e R s m args below meth c T' locs cells slots → T'.heap = h → Go p.tables e below Q (T'.setTop (mkF m q Ls (.ref a :: st)))) : Go p.tables e below Q (T.setTop (mkF m pc Ls (.ref a :: st))) := by
  subst hq
  obtain ⟨T', X', e', st'⟩ := castY X hx hZ hown w1 eT I (g := mkF m pc Ls (.ref a :: st)) rfl rfl hd
  exact Go.to st' (kk T' X' e')
theorem g_insY (X : Stand p l e R s m args below meth c T locs cells slots) (hx : p.tables.exec = Jvm.exec) (hZ : Z.Warmed39 s.vm) (hown : s.vm.findClass own = some m.cls) {K : String} (w1 : (Jvm.Cond.classLink own index K).before a0 Z = true) (I : Ins Z h a K true) (eT : T.heap = h) (hd : decode c.code pc = .ok (.instanceof index, 3)) (hq : pc + 3 = q) (kk : ∀ (T' : State), Stand p l e R s m args below meth c T' locs cells slots → T'.heap = h → Go p.tables e below Q (T'.setTop (mkF m q Ls (.int 1 :: st)))) : Go p.tables e below Q (T.setTop (mkF m pc Ls (.ref a :: st))) := by
  subst hq
  obtain ⟨T', X', e', st'⟩ := instY X hx hZ hown w1 eT I (g := mkF m pc Ls (.ref a :: st)) rfl rfl hd
  exact Go.to st' (kk T' X' e')
theorem g_init0 (X : Stand p l e R s m args below meth c T locs cells slots) (hx : p.tables.exec = Jvm.exec) (hZ : Z.Warmed39 s.vm) (hown : s.vm.findClass own = some m.cls) (w1 : (Jvm.Cond.methodLink own index Lib.objectInit).before a0 Z = true) (w2 : (Jvm.Cond.instanceMethod Lib.objectInit).before a0 Z = true) (w3 : (Jvm.Cond.code Lib.objectInit ⟨#[0xb1]⟩ 1 none).before a0 Z = true) (hsize : Ls.size = c.maxLocals) (hf : 1 ≤ R.frames) {W : Nat} (hW : (st.map fun v => v.category).sum ≤ W) (hl : W + 12 ≤ R.locals) (eT : T.heap = h) (hd : decode c.code pc = .ok (.invokespecial index, 3)) (hq : pc + 3 = q) (kk : ∀ (T' : State), Stand p l e R s m args below meth c T' locs cells slots → T'.heap = h → Go p.tables e below Q (T'.setTop (mkF m q Ls st))) : Go p.tables e below Q (T.setTop (mkF m pc Ls (.ref a :: st))) := by
  subst hq
  obtain ⟨T', X', e', st'⟩ := initO X hx hZ hown w1 w2 w3 eT (g := mkF m pc Ls (.ref a :: st)) rfl hsize rfl hd hf (W := W) (by show 2 * 0 + _ ≤ _; omega) hl
  exact Go.to st' (kk T' X' e')
theorem g_ldc {vm0 : Vm} (X : Stand p l e R (s.setVm vm0) m args below meth c T locs cells slots) (hx : p.tables.exec = Jvm.exec) (hZ : Z.Warmed39 vm0) (hown : vm0.findClass own = some m.cls) {text : String} (w : (Jvm.Cond.stringLink own index text).before a0 Z = true) (wS : ∀ a ∈ Bundle.stringAtoms, a.before a0 Z = true) {k0 : Nat} (hS : s.Since vm0 k0) (hk : k0 ≤ h.size) (hEL : EW Z a0 EL) (hmem : (own, index) ∈ EL) (H : CHv Z EL vm0 h) (ht : (∀ c ∈ text.toList, c.toNat < 256) ∧ text.toList.map (fun c => Value.int (Jvm.Lit.byteI c.toNat.toUInt16)) = vs) (hz : ¬ z < 0) (hl : z.toNatClampNeg = vs.length) {n : Nat} (hn : 4 * text.toList.length ≤ n) (hbig : n ≤ 536870912) (hc : cells + 2 ≤ R.cells) (hl' : slots + (n + 4) ≤ R.slots) (eT : T.heap = h) (hd : decode c.code pc = .ok (.ldc index, 2)) (hq : pc + 2 = q) (kk : ∀ (a : Addr) (T' : State) (h' : Heap) (k1 : Nat) (b : Addr) (k : ClassId), Stand p l e R (s.setVm T'.vm) m args below meth c T' locs (cells + 2) (slots + (n + 4)) → T'.heap = h' → Ext h h' → s.Since T'.vm k1 → k1 ≤ h'.size → Z.Warmed39 T'.vm → T'.vm.findClass own = some m.cls → Exa Z h' a "java/lang/String" → Fld Z h' a "java/lang/String" "coder" "B" (.int 0) → Fld Z h' a "java/lang/String" "value" "[B" (.ref b) → Arv Z h' b k .byte z vs (.int 0) → a < h'.size → b < h'.size → CHr Z EL vm0 h T'.vm h' → (∀ x, Safe Z EL T'.vm h' x → x ≠ a ∧ x ≠ b) → Go p.tables e below Q (T'.setTop (mkF m q Ls (.ref a :: st)))) : Go p.tables e below Q (T.setTop (mkF m pc Ls st)) := by
  subst hq
  obtain ⟨a, T', h', k1, b, k, X', e', E', S', hk', hZ', ho', A', F1, F2, V', l1, l2, R', -, sn, st'⟩ := ldcCH X hx hZ hown w wS eT hS hk hEL hmem H ht hz hl (g := mkF m pc Ls st) rfl hd hn hbig hc hl'
  exact Go.to st' (kk a T' h' k1 b k X' e' E' S' hk' hZ' ho' A' F1 F2 V' l1 l2 R' sn)
theorem g_ldcI (X : Stand p l e R s m args below meth c T locs cells slots) (hx : p.tables.exec = Jvm.exec) {a1 : Array Value} (hZ : Z.Warmed39 s.vm) (hown : s.vm.findClass own = some m.cls) (w : (Jvm.Cond.constant own index z).before a0 Z = true) (hd : decode c.code pc = .ok (.ldc index, 2)) (hq : pc + 2 = q) (kk : Go p.tables e below Q (T.setTop (mkF m q Ls (.int z :: st)))) : Go p.tables e below Q (T.setTop (mkF m pc Ls st)) := by
  subst hq; exact Go.to (X.ldcInt hx hown (mvT hZ w) (g := mkF m pc Ls st) rfl hd) kk
theorem g_ldcJ (X : Stand p l e R s m args below meth c T locs cells slots) (hx : p.tables.exec = Jvm.exec) {a1 : Array Value} (hZ : Z.Warmed39 s.vm) (hown : s.vm.findClass own = some m.cls) (w : (Jvm.Cond.constantLong own index jz).before a0 Z = true) (hd : decode c.code pc = .ok (.ldc2_w index, 3)) (hq : pc + 3 = q) (kk : Go p.tables e below Q (T.setTop (mkF m q Ls (.long jz :: st)))) : Go p.tables e below Q (T.setTop (mkF m pc Ls st)) := by
  subst hq; exact Go.to (X.ldc2Long hx hown (mvT hZ w) (g := mkF m pc Ls st) rfl hd) kk
theorem g_sp {y : MethodName} {bytes : ByteArray} {maxL : Nat} {W nk ns : Nat} {argsL st0 : List Value} {Qc : Option Value → Heap → List Loc → Prop} (X : Stand p l e R s m args below meth c T locs cells slots) (hx : p.tables.exec = Jvm.exec) (hZ : Z.Warmed39 s.vm) (hown : s.vm.findClass own = some m.cls) (w1 : (Jvm.Cond.methodLink own index y).before a0 Z = true) (w2 : (Jvm.Cond.instanceMethod y).before a0 Z = true) (w3 : (Jvm.Cond.code y bytes maxL none).before a0 Z = true) (hy1 : y.name = "<init>") (hyc : y.cls ≠ "java/lang/invoke/MethodHandle" ∧ y.cls ≠ "java/lang/invoke/VarHandle") (eT : T.heap = h) (hK : BackQ l R p e below s args y 3 W ((.ref a :: argsL).toArray) h nk ns Qc) (hsize : Ls.size = c.maxLocals) (hlen : ∀ sig, parseMethodDescriptor y.desc = some sig → argsL.length = sig.parameters.length) (hst : st0 = argsL.reverse ++ .ref a :: st) (hW : (st.map fun v => v.category).sum ≤ W) (hd : decode c.code pc = .ok (.invokespecial index, 3)) (hq : pc + 3 = q) (hc : cells + nk ≤ R.cells) (hs : slots + ns ≤ R.slots) (kk : ∀ (v : Option Value) (T' : State) (L : List Loc), Stand p l e R s m args below meth c T' (locs ++ L) (cells + nk) (slots + ns) → Qc v T'.heap L → Go p.tables e below Q (T'.setTop (mkF m q Ls (v.toList ++ st)))) : Go p.tables e below Q (T.setTop (mkF m pc Ls st0)) := by
  subst hq
  obtain ⟨v, T', L, X', hQ, st'⟩ := callSp X hx hZ hown hy1 w1 w2 w3 hyc eT hK (g := mkF m pc Ls st0) rfl hsize hlen hst (by show 2 * 0 + _ ≤ _; omega) hd hc hs
  exact Go.run st' (kk v T' L X' hQ)
theorem g_st {y : MethodName} {bytes : ByteArray} {maxL : Nat} {ret : Option FieldType} {W nk ns : Nat} {argsL st0 : List Value} {Qc : Option Value → Heap → List Loc → Prop} (X : Stand p l e R s m args below meth c T locs cells slots) (hx : p.tables.exec = Jvm.exec) (hZ : Z.Warmed39 s.vm) (hown : s.vm.findClass own = some m.cls) (w1 : (Jvm.Cond.methodLink own index y).before a0 Z = true) (w2 : (Jvm.Cond.static y).before a0 Z = true) (w3 : (Jvm.Cond.initialized y.cls).before a0 Z = true) (w4 : (Jvm.Cond.code y bytes maxL ret).before a0 Z = true) (hyc : y.cls ≠ "java/lang/invoke/MethodHandle" ∧ y.cls ≠ "java/lang/invoke/VarHandle") (eT : T.heap = h) (hK : BackQ l R p e below s args y 3 W (argsL.toArray) h nk ns Qc) (hsize : Ls.size = c.maxLocals) (hlen : ∀ sig, parseMethodDescriptor y.desc = some sig → argsL.length = sig.parameters.length) (hst : st0 = argsL.reverse ++ st) (hW : (st.map fun v => v.category).sum ≤ W) (hd : decode c.code pc = .ok (.invokestatic index, 3)) (hq : pc + 3 = q) (hc : cells + nk ≤ R.cells) (hs : slots + ns ≤ R.slots) (kk : ∀ (v : Option Value) (T' : State) (L : List Loc), Stand p l e R s m args below meth c T' (locs ++ L) (cells + nk) (slots + ns) → Qc v T'.heap L → Go p.tables e below Q (T'.setTop (mkF m q Ls (v.toList ++ st)))) : Go p.tables e below Q (T.setTop (mkF m pc Ls st0)) := by
  subst hq
  obtain ⟨v, T', L, X', hQ, st'⟩ := callSt X hx hZ hown w1 w2 w3 w4 hyc eT hK (g := mkF m pc Ls st0) rfl hsize hlen hst (by show 2 * 0 + _ ≤ _; omega) hd hc hs
  exact Go.run st' (kk v T' L X' hQ)
theorem g_vi {y z : MethodName} {W nk ns : Nat} {argsL st0 : List Value} {Qc : Option Value → Heap → List Loc → Prop} (X : Stand p l e R s m args below meth c T locs cells slots) (hx : p.tables.exec = Jvm.exec) (hZ : Z.Warmed39 s.vm) (hown : s.vm.findClass own = some m.cls) (w1 : (Jvm.Cond.methodLink own index y).before a0 Z = true) (w2 : (Jvm.Cond.declares y).before a0 Z = true) (nf : NotFace s y) (w4 : (Jvm.Cond.selects C y z).before a0 Z = true) (w5 : (Jvm.Cond.instanceMethod z).before a0 Z = true) (hyc : y.cls ≠ "java/lang/invoke/MethodHandle" ∧ y.cls ≠ "java/lang/invoke/VarHandle") (E : Exa Z h a C) (eT : T.heap = h) (hK : BackQ l R p e below s args z 3 W ((.ref a :: argsL).toArray) h nk ns Qc) (hsize : Ls.size = c.maxLocals) (hlen : ∀ sig, parseMethodDescriptor y.desc = some sig → argsL.length = sig.parameters.length) (hst : st0 = argsL.reverse ++ .ref a :: st) (hW : (st.map fun v => v.category).sum ≤ W) (hd : decode c.code pc = .ok (.invokevirtual index, 3)) (hq : pc + 3 = q) (hc : cells + nk ≤ R.cells) (hs : slots + ns ≤ R.slots) (kk : ∀ (v : Option Value) (T' : State) (L : List Loc), Stand p l e R s m args below meth c T' (locs ++ L) (cells + nk) (slots + ns) → Qc v T'.heap L → Go p.tables e below Q (T'.setTop (mkF m q Ls (v.toList ++ st)))) : Go p.tables e below Q (T.setTop (mkF m pc Ls st0)) := by
  subst hq
  obtain ⟨v, T', L, X', hQ, st'⟩ := callVi X hx hZ hown w1 w2 nf w4 w5 hyc eT E hK (g := mkF m pc Ls st0) rfl hsize hlen hst (by show 2 * 0 + _ ≤ _; omega) hd hc hs
  exact Go.run st' (kk v T' L X' hQ)
theorem g_if {y z : MethodName} {W nk ns : Nat} {argsL st0 : List Value} {Qc : Option Value → Heap → List Loc → Prop} {count : Nat} (X : Stand p l e R s m args below meth c T locs cells slots) (hx : p.tables.exec = Jvm.exec) (hZ : Z.Warmed39 s.vm) (hown : s.vm.findClass own = some m.cls) (w1 : (Jvm.Cond.methodLink own index y).before a0 Z = true) (w2 : (Jvm.Cond.declares y).before a0 Z = true) (w3 : (Jvm.Cond.interfaceMethod y.cls y.cls y.name y.desc).before a0 Z = true) (h3 : ((Jvm.Cond.interfaceMethod y.cls y.cls y.name y.desc).onTables && (Jvm.Cond.interfaceMethod y.cls y.cls y.name y.desc).keepsFace) = true) (w4 : (Jvm.Cond.selects C y z).before a0 Z = true) (w5 : (Jvm.Cond.instanceMethod z).before a0 Z = true) (w6 : (Jvm.Cond.publicMethod z).before a0 Z = true) (w7 : (Jvm.Cond.unhidden C y.name y.desc).before a0 Z = true) (w8 : (Jvm.Cond.castable C y.cls).before a0 Z = true) (hyc : y.cls ≠ "java/lang/invoke/MethodHandle" ∧ y.cls ≠ "java/lang/invoke/VarHandle") (E : Exa Z h a C) (eT : T.heap = h) (hK : BackQ l R p e below s args z 5 W ((.ref a :: argsL).toArray) h nk ns Qc) (hsize : Ls.size = c.maxLocals) (hlen : ∀ sig, parseMethodDescriptor y.desc = some sig → argsL.length = sig.parameters.length) (hst : st0 = argsL.reverse ++ .ref a :: st) (hW : (st.map fun v => v.category).sum ≤ W) (hd : decode c.code pc = .ok (.invokeinterface index count, 5)) (hq : pc + 5 = q) (hc : cells + nk ≤ R.cells) (hs : slots + ns ≤ R.slots) (kk : ∀ (v : Option Value) (T' : State) (L : List Loc), Stand p l e R s m args below meth c T' (locs ++ L) (cells + nk) (slots + ns) → Qc v T'.heap L → Go p.tables e below Q (T'.setTop (mkF m q Ls (v.toList ++ st)))) : Go p.tables e below Q (T.setTop (mkF m pc Ls st0)) := by
  subst hq
  obtain ⟨v, T', L, X', hQ, st'⟩ := callIf X hx hZ hown w1 w2 w3 h3 w4 w5 w6 w7 w8 hyc eT E hK (g := mkF m pc Ls st0) rfl hsize hlen hst (by show 2 * 0 + _ ≤ _; omega) hd hc hs
  exact Go.run st' (kk v T' L X' hQ)
theorem g_spS {vm0 : Vm} {y : MethodName} {bytes : ByteArray} {maxL : Nat} {W nk ns : Nat} {argsL st0 : List Value} {Qc : Option Value → Heap → List Loc → Prop} (X : Stand p l e R (s.setVm vm0) m args below meth c T locs cells slots) (hx : p.tables.exec = Jvm.exec) (hZ : Z.Warmed39 vm0) (hown : vm0.findClass own = some m.cls) {n0 : Nat} (hS : s.Since vm0 n0) (hk : n0 ≤ h.size) (w1 : (Jvm.Cond.methodLink own index y).before a0 Z = true) (w2 : (Jvm.Cond.instanceMethod y).before a0 Z = true) (w3 : (Jvm.Cond.code y bytes maxL none).before a0 Z = true) (hy1 : y.name = "<init>") (hyc : y.cls ≠ "java/lang/invoke/MethodHandle" ∧ y.cls ≠ "java/lang/invoke/VarHandle") (eT : T.heap = h) (hK : BackSQ l R p e below s vm0 args y 3 W ((.ref a :: argsL).toArray) h nk ns Z EL Qc) (hsize : Ls.size = c.maxLocals) (hlen : ∀ sig, parseMethodDescriptor y.desc = some sig → argsL.length = sig.parameters.length) (hst : st0 = argsL.reverse ++ .ref a :: st) (hW : (st.map fun v => v.category).sum ≤ W) (hd : decode c.code pc = .ok (.invokespecial index, 3)) (hq : pc + 3 = q) (hc : cells + nk ≤ R.cells) (hs : slots + ns ≤ R.slots) (kk : ∀ (v : Option Value) (T' : State) (L : List Loc), AfterS p l e R s m args below meth c Z EL own vm0 h T' (locs ++ L) (cells + nk) (slots + ns) → Qc v T'.heap L → Go p.tables e below Q (T'.setTop (mkF m q Ls (v.toList ++ st)))) : Go p.tables e below Q (T.setTop (mkF m pc Ls st0)) := by
  subst hq
  obtain ⟨v, T', L, X', hQ, st'⟩ := callSpS X hx hZ hown hS hk hy1 w1 w2 w3 hyc eT hK (g := mkF m pc Ls st0) rfl hsize hlen hst (by show 2 * 0 + _ ≤ _; omega) hd hc hs
  exact Go.run st' (kk v T' L X' hQ)
theorem g_stS {vm0 : Vm} {y : MethodName} {bytes : ByteArray} {maxL : Nat} {ret : Option FieldType} {W nk ns : Nat} {argsL st0 : List Value} {Qc : Option Value → Heap → List Loc → Prop} (X : Stand p l e R (s.setVm vm0) m args below meth c T locs cells slots) (hx : p.tables.exec = Jvm.exec) (hZ : Z.Warmed39 vm0) (hown : vm0.findClass own = some m.cls) {n0 : Nat} (hS : s.Since vm0 n0) (hk : n0 ≤ h.size) (w1 : (Jvm.Cond.methodLink own index y).before a0 Z = true) (w2 : (Jvm.Cond.static y).before a0 Z = true) (w3 : (Jvm.Cond.initialized y.cls).before a0 Z = true) (w4 : (Jvm.Cond.code y bytes maxL ret).before a0 Z = true) (hyc : y.cls ≠ "java/lang/invoke/MethodHandle" ∧ y.cls ≠ "java/lang/invoke/VarHandle") (eT : T.heap = h) (hK : BackSQ l R p e below s vm0 args y 3 W (argsL.toArray) h nk ns Z EL Qc) (hsize : Ls.size = c.maxLocals) (hlen : ∀ sig, parseMethodDescriptor y.desc = some sig → argsL.length = sig.parameters.length) (hst : st0 = argsL.reverse ++ st) (hW : (st.map fun v => v.category).sum ≤ W) (hd : decode c.code pc = .ok (.invokestatic index, 3)) (hq : pc + 3 = q) (hc : cells + nk ≤ R.cells) (hs : slots + ns ≤ R.slots) (kk : ∀ (v : Option Value) (T' : State) (L : List Loc), AfterS p l e R s m args below meth c Z EL own vm0 h T' (locs ++ L) (cells + nk) (slots + ns) → Qc v T'.heap L → Go p.tables e below Q (T'.setTop (mkF m q Ls (v.toList ++ st)))) : Go p.tables e below Q (T.setTop (mkF m pc Ls st0)) := by
  subst hq
  obtain ⟨v, T', L, X', hQ, st'⟩ := callStS X hx hZ hown hS hk w1 w2 w3 w4 hyc eT hK (g := mkF m pc Ls st0) rfl hsize hlen hst (by show 2 * 0 + _ ≤ _; omega) hd hc hs
  exact Go.run st' (kk v T' L X' hQ)
theorem g_viS {vm0 : Vm} {y z : MethodName} {W nk ns : Nat} {argsL st0 : List Value} {Qc : Option Value → Heap → List Loc → Prop} (X : Stand p l e R (s.setVm vm0) m args below meth c T locs cells slots) (hx : p.tables.exec = Jvm.exec) (hZ : Z.Warmed39 vm0) (hown : vm0.findClass own = some m.cls) {n0 : Nat} (hS : s.Since vm0 n0) (hk : n0 ≤ h.size) (w1 : (Jvm.Cond.methodLink own index y).before a0 Z = true) (w2 : (Jvm.Cond.declares y).before a0 Z = true) (nf : NotFace (s.setVm vm0) y) (w4 : (Jvm.Cond.selects C y z).before a0 Z = true) (w5 : (Jvm.Cond.instanceMethod z).before a0 Z = true) (hyc : y.cls ≠ "java/lang/invoke/MethodHandle" ∧ y.cls ≠ "java/lang/invoke/VarHandle") (E : Exa Z h a C) (eT : T.heap = h) (hK : BackSQ l R p e below s vm0 args z 3 W ((.ref a :: argsL).toArray) h nk ns Z EL Qc) (hsize : Ls.size = c.maxLocals) (hlen : ∀ sig, parseMethodDescriptor y.desc = some sig → argsL.length = sig.parameters.length) (hst : st0 = argsL.reverse ++ .ref a :: st) (hW : (st.map fun v => v.category).sum ≤ W) (hd : decode c.code pc = .ok (.invokevirtual index, 3)) (hq : pc + 3 = q) (hc : cells + nk ≤ R.cells) (hs : slots + ns ≤ R.slots) (kk : ∀ (v : Option Value) (T' : State) (L : List Loc), AfterS p l e R s m args below meth c Z EL own vm0 h T' (locs ++ L) (cells + nk) (slots + ns) → Qc v T'.heap L → Go p.tables e below Q (T'.setTop (mkF m q Ls (v.toList ++ st)))) : Go p.tables e below Q (T.setTop (mkF m pc Ls st0)) := by
  subst hq
  obtain ⟨v, T', L, X', hQ, st'⟩ := callViS X hx hZ hown hS hk w1 w2 nf w4 w5 hyc eT E hK (g := mkF m pc Ls st0) rfl hsize hlen hst (by show 2 * 0 + _ ≤ _; omega) hd hc hs
  exact Go.run st' (kk v T' L X' hQ)
theorem g_cp (X : Stand p l e R s m args below meth c T locs cells slots) (hx : p.tables.exec = Jvm.exec) (hZ : Z.Warmed39 s.vm) (hown : s.vm.findClass own = some m.cls) (w1 : (Jvm.Cond.methodLink own index Jvm.Stand.acN).before a0 Z = true) (w2 : (Jvm.Cond.native Jvm.Stand.acN).before a0 Z = true) (w3 : (Jvm.Cond.static Jvm.Stand.acN).before a0 Z = true) (w4 : (Jvm.Cond.initialized "java/lang/System").before a0 Z = true) {b : Addr} {k' : ClassId} {ty' : FieldType} {z' sp dp nn : Int32} {vd us : List Value} {d2 : Value} (A : Arv Z h a kc ty z vs d) (B : Arv Z h b k' ty' z' vd d2) (hty : (ty = ty' ∧ refKind ty = false) ∨ (refKind ty = true ∧ refKind ty' = true ∧ StoL Z h b us)) (h1 : ¬ sp < 0) (h2 : ¬ dp < 0) (h3 : ¬ nn < 0) (h4 : sp.toNatClampNeg + nn.toNatClampNeg ≤ z.toNatClampNeg) (h5 : dp.toNatClampNeg + nn.toNatClampNeg ≤ z'.toNatClampNeg) (hus : us = (List.range nn.toNatClampNeg).map fun i => vs.getD (sp.toNatClampNeg + i) d) (hl : dp.toNatClampNeg + nn.toNatClampNeg ≤ vd.length) {n0 : Nat} (N : Fr n0 locs) (ge : n0 ≤ b) (hsize : Ls.size = c.maxLocals) (hf : 1 ≤ R.frames) {W : Nat} (hW : (st.map fun v => v.category).sum ≤ W) (hlo : W + (nativeFrameWords "java/lang/System" "arraycopy" 5 + 11) ≤ R.locals) (eT : T.heap = h) (hd : decode c.code pc = .ok (.invokestatic index, 3)) (hq : pc + 3 = q) (kk : ∀ (T' : State) (h' : Heap) (L : List Loc), Stand p l e R s m args below meth c T' L cells slots → T'.heap = h' → Fr n0 L → Keep h h' [b] → Arv Z h' b k' ty' z' (vd.take dp.toNatClampNeg ++ us ++ vd.drop (dp.toNatClampNeg + nn.toNatClampNeg)) d2 → Go p.tables e below Q (T'.setTop (mkF m q Ls st))) : Go p.tables e below Q (T.setTop (mkF m pc Ls (.int nn :: .int dp :: .ref b :: .int sp :: .ref a :: st))) := by
  subst hq
  obtain ⟨T', h', L, X', e', N', K', V', st'⟩ := cpA X hx hZ hown w1 w2 w3 w4 eT A B hty h1 h2 h3 h4 h5 hus hl N ge (g := mkF m pc Ls (.int nn :: .int dp :: .ref b :: .int sp :: .ref a :: st)) rfl hsize rfl hd hf (W := W) (by show 2 * 0 + _ ≤ _; omega) hlo
  exact Go.to st' (kk T' h' L X' e' N' K' V')
end Steps1
end Jvm.OwnKit

namespace Jvm.OwnKit
open Jvm Jvm.ClassFile Sem Op Lib Jvm.Free Jvm.Stand Jvm.LawKit Jvm.RoadKit Bundle Jvm.Free.Exc
/-- a contract of a method beneath which a stack trace is filled in -/
def ConK (l : Launch) (Z : State) (EL : List (String × Nat)) (y : MethodName) (bytes : ByteArray) (maxL : Nat) (ret : Option FieldType) (rm : Room) (as' : Array Value) (h : Heap) (sl : List Addr) (Qc : Option Value → Heap → List Loc → Prop) : Prop :=
  ∀ ws : List Jvm.Cond, MetFree l y (head1 (Jvm.Cond.code y bytes maxL ret :: ws) rm) (fun a U => a = as' ∧ Z.Warmed39 U.vm ∧ U.heap = h ∧ CHv Z EL U.vm h ∧ ∀ x ∈ sl, Safe Z EL U.vm h x) (fun _ _ bl s _ => s.vm.MethodsKnown ∧ s.vm.FramesKnown bl) (fun _ U o U' => SEnd Z EL U Qc rm.cells rm.slots o U')
theorem ConK.intro {l : Launch} {Z : State} {EL : List (String × Nat)} {y : MethodName} {bytes : ByteArray} {maxL : Nat} {ret : Option FieldType} {rm : Room} {as' : Array Value} {h : Heap} {sl : List Addr} {Qc : Option Value → Heap → List Loc → Prop} (pn : plainFor y = true)
    (body : ∀ (p : Program) (e : Env) (s : State) (m : MethodId) (below : List Frame) (meth : Method) (c : Code) (T : State) (v0 : Vm), Stand p l e rm (s.setVm v0) m as' below meth c T [] 0 0 → p.tables.exec = Jvm.exec → c.code = bytes → c.maxLocals = maxL →
      v0.findClass y.cls = some m.cls → meth.name = y.name → meth.sig.returnType = ret → meth.locks = false → Z.Warmed39 v0 → T.heap = h → s.Since v0 0 → CHr Z EL s.vm s.heap v0 h → (∀ x ∈ sl, Safe Z EL v0 h x) → s.heap = h → v0.MethodsKnown → v0.FramesKnown below →
      Go p.tables e below (SEnd Z EL s Qc rm.cells rm.slots) (T.setTop (entryFrame m as' maxL))) : ConK l Z EL y bytes maxL ret rm as' h sl Qc := by
  intro ws
  refine MetFree.of_bodySF pn hisR ?_
  intro p e s m args below meth c s₁ Bd hml0 hP hK
  obtain ⟨rfl, hZ, hh, hC, hs⟩ := hP
  exact body p e s m below meth c s₁ s.vm (Stand.of_body Bd) Bd.exec Bd.bytes hml0 (findClass_of_methodNamed Bd.named) (name_of_methodNamed Bd.named Bd.method).1 Bd.returns Bd.notSynchronized hZ (by rw [← hh, Bd.state]; rfl) ((State.WarmedH.refl s).since 0) (by rw [hh]; exact CHr.refl hC) hs hh hK.1 hK.2
section
variable {p : Program} {l : Launch} {e : Env} {R : Room} {s : State} {m : MethodId} {args : Array Value} {below : List Frame} {meth : Method} {c : Code} {T : State} {locs : List Loc} {cells slots : Nat} {Z : State} {a0 : Array Value} {EL : List (String × Nat)} {h : Heap} {Qc : Option Value → Heap → List Loc → Prop} {vm0 : Vm} {n0 : Nat}
  {y z : MethodName} {bytes : ByteArray} {maxL : Nat} {ret : Option FieldType} {rm : Room} {as' : Array Value} {own C : String} {index count W k n len : Nat} {g : JFrame} {a : Addr} {argsL rest : List Value}
theorem ConK.back {sl : List Addr} (hM : ConK l Z EL y bytes maxL ret rm as' h sl Qc) (hZ : Z.Warmed39 vm0) (wc : (Jvm.Cond.code y bytes maxL ret).before a0 Z = true) (wz : (Jvm.Cond.initialized y.cls).before a0 Z = true) (hf : rm.frames + 1 ≤ R.frames) (hl : W + (maxL + 11) + rm.locals ≤ R.locals) (hEL : EW Z a0 EL) (H : CHv Z EL vm0 h)
    (hs : ∀ x ∈ sl, Safe Z EL vm0 h x) (hlt : ∀ x ∈ sl, x < h.size) (hTK : vm0.MethodsKnown) (hBelow : vm0.FramesKnown below) : BackSQ l R p e below s vm0 args y len W as' h rm.cells rm.slots Z EL Qc :=
  BackS.of_freeWG (bytes := bytes) (maxL := maxL) (ret := ret) (E := fun _ first o t L k n => k = rm.cells ∧ n = rm.slots ∧ (∃ v, o = .returned v ∧ Qc v t.heap L) ∧ CHr Z EL first.vm first.heap t.vm t.heap) (hM []) hf hl
    (fun m meth c A a Y hp => have hU : Z.Warmed39 A.U.vm := wtrans (s := s.setVm vm0) hZ Y.warmed
      ⟨by show (Cond.and _ .tt).before a A.U = true; rw [Cond.before_and, mv hU wc]; rfl, mv hU wc, mv hU wz, hp.2.2.1, hp.2.2.2⟩)
    (fun m meth c A a g mk Y hp => ⟨hp.1, wtrans (s := s.setVm vm0) hZ Y.warmed, hp.2.1, (CHv.at Y hZ hEL H).1, fun x hx => (CHv.at Y hZ hEL H).safe (hlt x hx) (hs x hx)⟩) (fun m meth c A a g mk Y _ hg => known_frames Y hg hTK hBelow)
    (fun _ _ _ _ ⟨v, L, h1, h2, h3, h4⟩ => ⟨L, _, _, h4, rfl, rfl, ⟨v, h1, h2⟩, h3⟩)
    (fun m meth c A a g mk v t L k n Y hp _ _ ⟨e1, e2, ⟨v', e3, e4⟩, e5⟩ => by
      cases e3; subst e1 e2
      refine ⟨L, e4, rfl, rfl, rfl, (CHv.at Y hZ hEL H).trans ?_⟩
      rw [← hp.2.1]; exact e5)
end
def sub (vs : List Value) (sp n : Nat) (d : Value) : List Value := (List.range n).map fun i => vs.getD (sp + i) d
def ins (vd us : List Value) (p n : Nat) : List Value := vd.take p ++ us ++ vd.drop (p + n)
theorem sub_len {vs : List Value} {sp n : Nat} {d : Value} : (sub vs sp n d).length = n := by simp [sub]
theorem ins_len {vd us : List Value} {p n : Nat} (h : us.length = n) (h2 : p + n ≤ vd.length) : (ins vd us p n).length = vd.length := by
  simp only [ins, List.length_append, List.length_take, List.length_drop, h]
  omega
section
variable {p : Program} {l : Launch} {e : Env} {R : Room} {s : State} {m : MethodId} {args : Array Value} {below : List Frame} {meth : Method} {c : Code} {T : State} {locs : List Loc} {cells slots : Nat} {Z : State} {a0 : Array Value} {h : Heap} {Q : Outcome → State → Prop} {pc q : Nat} {Ls : Array Slot} {st : List Value} {own C : String} {index k : Nat} {a : Addr}
theorem g_newE (X : Stand p l e R s m args below meth c T locs cells slots) (hx : p.tables.exec = Jvm.exec) (hZ : Z.Warmed39 s.vm) {aty : ArrayType} {z : Int32} (w1 : (Jvm.Cond.arrayClass (newarray.typeOf aty)).before a0 Z = true) (hn : ¬ z < 0) {n : Nat} (hk : z.toNatClampNeg = n) (hb : n * 8 ≤ 536870912) (hc : cells + 1 ≤ R.cells) (hl : slots + n ≤ R.slots) {ad : String} (had : "[" ++ (newarray.typeOf aty).toString = ad) (eT : T.heap = h) (hd : decode c.code pc = .ok (.newarray aty, 2)) (hq : pc + 2 = q)
    (kk : ∀ (T' : State) (h' : Heap) (kc : ClassId) (b : Addr), b = h.size → Stand p l e R s m args below meth c T' locs (cells + 1) (slots + n) → T'.heap = h' → Ext h h' → Arv Z h' b kc (newarray.typeOf aty) z (List.replicate n (defaultValue (newarray.typeOf aty))) (defaultValue (newarray.typeOf aty)) → Exa Z h' b ad → Go p.tables e below Q (T'.setTop (mkF m q Ls (.ref b :: st)))) : Go p.tables e below Q (T.setTop (mkF m pc Ls (.int z :: st))) := by
  subst hq
  obtain ⟨T', h', cA, X', e', E', A', G', st'⟩ := newPE X hx hZ w1 eT (g := mkF m pc Ls (.int z :: st)) rfl hd rfl hn (cap := n) (Nat.le_of_eq hk) hb hc hl had
  exact Go.to st' (kk T' h' cA _ rfl X' e' E' ((Arv.new A' hn).pad (fun i => by have := pad_rep [] (defaultValue (newarray.typeOf aty)) n i; simpa using this)) G')
theorem g_pvC {y : MethodName} {bytes : ByteArray} {maxL : Nat} {ret : Option FieldType} {W nk ns : Nat} {argsL st0 : List Value} {Qc : Option Value → Heap → List Loc → Prop} {K : String} (X : Stand p l e R s m args below meth c T locs cells slots) (hx : p.tables.exec = Jvm.exec) (hZ : Z.Warmed39 s.vm) (hown : s.vm.findClass own = some m.cls) (w1 : (Jvm.Cond.methodLink own index y).before a0 Z = true) (w2 : (Jvm.Cond.instanceMethod y).before a0 Z = true) (w3 : (Jvm.Cond.selects K y y).before a0 Z = true) (w4 : (Jvm.Cond.privateMethod y).before a0 Z = true) (w5 : (Jvm.Cond.code y bytes maxL ret).before a0 Z = true)
    (hyc : y.cls ≠ "java/lang/invoke/MethodHandle" ∧ y.cls ≠ "java/lang/invoke/VarHandle") (E : Exa Z h a C) (eT : T.heap = h) (hK : BackQ l R p e below s args y 3 W (.ref a :: argsL).toArray h nk ns Qc) (hsize : Ls.size = c.maxLocals) (hlen : ∀ sig, parseMethodDescriptor y.desc = some sig → argsL.length = sig.parameters.length) (hst : st0 = argsL.reverse ++ .ref a :: st) (hW : (st.map fun v => v.category).sum ≤ W) (hd : decode c.code pc = .ok (.invokevirtual index, 3)) (hq : pc + 3 = q) (hc : cells + nk ≤ R.cells) (hs : slots + ns ≤ R.slots)
    (kk : ∀ (v : Option Value) (T' : State) (L : List Loc), Stand p l e R s m args below meth c T' (locs ++ L) (cells + nk) (slots + ns) → Qc v T'.heap L → Go p.tables e below Q (T'.setTop (mkF m q Ls (v.toList ++ st)))) : Go p.tables e below Q (T.setTop (mkF m pc Ls st0)) := by
  subst hq
  obtain ⟨cell, k0, q1, q0, q2, q3, q4⟩ := E
  have hobj : ∀ q, cell.vm ≠ .statics q := fun q hq => by rw [hq] at q3; cases q3
  obtain ⟨mk, mM, hn, hm, ha, hb⟩ := Cond.instanceMethod_spec (mvT hZ w2 (args := args))
  obtain ⟨mM', cM, hm', -, -, -, -, -, -, hsig⟩ := Cond.code_spec hn (mvT hZ w5 (args := args))
  cases hm.symm.trans hm'
  obtain ⟨c2, r2, m2, -, -, p3, -, kP, hkP, hkPi⟩ := Cond.selects_spec (mvT hZ w3 (args := args))
  cases hn.symm.trans p3
  have hsel : selectMethod e.platform s.vm cell.cls mk = .method mk := selectMethod_private hm (Cond.privateMethod_at (mvP hZ w4 (args := #[])) mk mM hn hm)
  obtain ⟨vm1, X1, st1⟩ := X.invokevirtual hx hown (mvT hZ w1) hn hm ha hkP hkPi hyc (a := a) (cell := cell) (by rw [eT]; exact q1) hobj hsel hm hb hkP hkPi (g := mkF m pc Ls st0) rfl (argsL := argsL) (rest := st) (hlen _ hsig) hst hd
  obtain ⟨v, ⟨T', L', k', n'⟩, X', ⟨L, hQ, rfl, rfl, rfl⟩, st2⟩ := hK m meth c ⟨T.setVm vm1, locs, cells, slots⟩ (mkF m pc Ls st) (.invokevirtual index) mk (.ref a :: argsL).toArray X1 rfl hsize hd (by show 2 * 0 + (st.map fun v => v.category).sum ≤ _; omega) (X1.named hn) ⟨rfl, eT, hc, hs⟩
  exact Go.run ((st1 _ fun acts => by rw [doInvoke_state]; exact Steps.refl _).trans st2) (kk v T' L X' hQ)
theorem same_self {y y0 : MethodName} {K : String} (wi : (Jvm.Cond.instanceMethod y).before a0 Z = true) (w0 : (Jvm.Cond.selects K y0 y0).before a0 Z = true) (e : y0.cls = y.cls) (hy : y.cls ≠ "java/lang/invoke/MethodHandle" ∧ y.cls ≠ "java/lang/invoke/VarHandle") : (Jvm.Cond.sameMethod y.cls y.cls y.name y.desc).before a0 Z = true := by
  obtain ⟨mk, mM, hn, -⟩ := Cond.instanceMethod_spec wi
  obtain ⟨c2, r2, m2, -, -, p3, -⟩ := Cond.selects_spec w0
  obtain ⟨kr, hkr, hni⟩ := notFace_of_selects w0 m2 p3
  have hf := State.methodFound?_of_named hn hy
  have hc := findClass_of_methodNamed hn
  have hc0 := findClass_of_methodNamed p3
  rw [e, hc] at hc0
  have ec : mk.cls = m2.cls := Option.some.inj hc0
  have hn2 : Z.methodNamed? ⟨y.cls, y.name, y.desc⟩ = some mk := hn
  simp [Cond.before, Cond.holds, Cond.value, hc, hf, hn2, ec, hkr, hni]
theorem g_su {y : MethodName} {bytes : ByteArray} {maxL : Nat} {ret : Option FieldType} {W nk ns : Nat} {argsL st0 : List Value} {Qc : Option Value → Heap → List Loc → Prop} (X : Stand p l e R s m args below meth c T locs cells slots) (hx : p.tables.exec = Jvm.exec) (hZ : Z.Warmed39 s.vm) (hown : s.vm.findClass own = some m.cls) (w1 : (Jvm.Cond.methodLink own index y).before a0 Z = true) (w2 : (Jvm.Cond.sameMethod y.cls y.cls y.name y.desc).before a0 Z = true) (w3 : (Jvm.Cond.instanceMethod y).before a0 Z = true) (w4 : (Jvm.Cond.superclass own y.cls).before a0 Z = true) (w5 : (Jvm.Cond.code y bytes maxL ret).before a0 Z = true) (hn : y.name ≠ "<init>")
    (E : Exa Z h a C) (eT : T.heap = h) (hK : BackQ l R p e below s args y 3 W (.ref a :: argsL).toArray h nk ns Qc) (hsize : Ls.size = c.maxLocals) (hlen : ∀ sig, parseMethodDescriptor y.desc = some sig → argsL.length = sig.parameters.length) (hst : st0 = argsL.reverse ++ .ref a :: st) (hW : (st.map fun v => v.category).sum ≤ W) (hd : decode c.code pc = .ok (.invokespecial index, 3)) (hq : pc + 3 = q) (hc : cells + nk ≤ R.cells) (hs : slots + ns ≤ R.slots)
    (kk : ∀ (v : Option Value) (T' : State) (L : List Loc), Stand p l e R s m args below meth c T' (locs ++ L) (cells + nk) (slots + ns) → Qc v T'.heap L → Go p.tables e below Q (T'.setTop (mkF m q Ls (v.toList ++ st)))) : Go p.tables e below Q (T.setTop (mkF m pc Ls st0)) := by
  subst hq
  obtain ⟨v, vm1, ⟨T', L', k', n'⟩, -, X', ⟨L, hQ, rfl, rfl, rfl⟩, st'⟩ := superBack X hx hZ hown w1 w2 w3 w4 hn hK eT (Ins.self E) (g := mkF m pc Ls st0) rfl hsize w5 hlen hst (by show 2 * 0 + (st.map fun v => v.category).sum ≤ _; omega) hd (fun _ _ => ⟨rfl, eT, hc, hs⟩)
  exact Go.run st' (kk v T' L X' hQ)
theorem nf_of {y y0 : MethodName} {K : String} {as : Array Value} {y1 : MethodName} (w0 : (Jvm.Cond.selects K y1 y0).before as s = true) (e : y0.cls = y.cls) : NotFace s y := fun r0 h0 => by
  obtain ⟨c2, r2, m2, -, -, p3, -, kr, hkr, hni⟩ := Cond.selects_spec w0
  have hc := findClass_of_methodNamed h0
  have hc0 := findClass_of_methodNamed p3
  rw [e, hc] at hc0
  have ec : r0.cls = m2.cls := Option.some.inj hc0
  exact ⟨kr, by rw [ec]; exact hkr, hni⟩
theorem fld_inj {O n d : String} {v w : Value} (F1 : Fld Z h a O n d v) (F2 : Fld Z h a O n d w) : v = w := by
  obtain ⟨c1, _, _, _, f1, a1, b1, _, _, _, _, s1⟩ := F1
  obtain ⟨c2, _, _, _, f2, a2, b2, _, _, _, _, s2⟩ := F2
  cases a1.symm.trans a2
  cases b1.symm.trans b2
  exact Option.some.inj (s1.symm.trans s2)
end
end Jvm.OwnKit

namespace Jvm.OwnKit
open Jvm Jvm.ClassFile Sem Op Lib Jvm.Free Jvm.Stand Jvm.LawKit Jvm.RoadKit Bundle Jvm.Free.Exc
section
variable {p : Program} {l : Launch} {e : Env} {R : Room} {s : State} {m : MethodId} {args : Array Value} {below : List Frame} {meth : Method} {c : Code} {T : State} {locs : List Loc} {cells slots : Nat} {Z : State} {a0 : Array Value} {h h0 h' : Heap} {Q : Outcome → State → Prop} {pc q : Nat} {Ls : Array Slot} {st : List Value} {a : Addr}
/-- no cell but a has changed -/
def Only (h h' : Heap) (a : Addr) : Prop := h'.size = h.size ∧ ∀ y : Addr, y ≠ a → h'[y]? = h[y]?
theorem Only.same (q : h0 = h) : Only h0 h a := by subst q; exact ⟨rfl, fun _ _ => rfl⟩
theorem Only.wr {sl : Nat} {v : Value} (F : Only h0 h a) (W : Wr h h' a sl v) : Only h0 h' a := by
  obtain ⟨cell, -, -, -, rfl⟩ := W
  exact ⟨by simpa using F.1, fun y hy => by rw [Array.getElem?_setIfInBounds_ne (Ne.symm hy)]; exact F.2 y hy⟩
set_option maxHeartbeats 4000000 in
end
end Jvm.OwnKit
namespace Jvm.OwnKit
theorem on_int {i : Nat} (h : i < 2147483648) : (Int32.ofNat i).toInt = i := by
  rw [Int32.toInt_ofNat']
  have sz : Int32.size = 4294967296 := rfl
  exact Int.bmod_eq_of_le (by omega) (by omega)
theorem on_clamp {i : Nat} (h : i < 2147483648) : (Int32.ofNat i).toNatClampNeg = i := by
  show (Int32.ofNat i).toInt.toNat = i
  rw [on_int h]; rfl
theorem on_nn {i : Nat} (h : i < 2147483648) : ¬ Int32.ofNat i < 0 := by
  have e0 : (0 : Int32).toInt = 0 := by decide
  rw [Int32.lt_iff_toInt_lt, on_int h, e0]; omega
theorem on_lt {i n : Nat} (h : i < n) (hn : n < 2147483648) : Int32.ofNat i < Int32.ofNat n := by
  rw [Int32.lt_iff_toInt_lt, on_int hn, on_int (by omega)]; omega
theorem on_ne {i n : Nat} (h : i < n) (hn : n < 2147483648) : ¬ Int32.ofNat i = Int32.ofNat n := fun q => by
  have q1 := congrArg Int32.toInt q
  rw [on_int hn, on_int (by omega)] at q1
  omega
theorem on_neq {i n : Nat} (h : ¬ i = n) (hi : i < 2147483648) (hn : n < 2147483648) : ¬ Int32.ofNat i = Int32.ofNat n := fun q => by
  have q1 := congrArg Int32.toInt q
  rw [on_int hn, on_int hi] at q1
  omega
theorem lt_irr {x : Int32} : ¬ x < x := by rw [Int32.lt_iff_toInt_lt]; omega
end Jvm.OwnKit
namespace Jvm.OwnKit
open Jvm Jvm.ClassFile Sem Op Lib Jvm.Free Jvm.Stand Jvm.LawKit Jvm.RoadKit
theorem cp_le {x y z : Int32} {a b c : Nat} (h1 : x.toNatClampNeg = a) (h2 : y.toNatClampNeg = b) (h3 : z.toNatClampNeg = c) (h : a + b ≤ c) : x.toNatClampNeg + y.toNatClampNeg ≤ z.toNatClampNeg := by rw [h1, h2, h3]; exact h
theorem cp_len {x y : Int32} {a b n : Nat} {vd : List Value} (h1 : x.toNatClampNeg = a) (h2 : y.toNatClampNeg = b) (h3 : vd.length = n) (h : a + b ≤ n) : x.toNatClampNeg + y.toNatClampNeg ≤ vd.length := by rw [h1, h2, h3]; exact h
theorem cp_us {x y : Int32} {a b : Nat} {vs : List Value} {d : Value} (h1 : x.toNatClampNeg = a) (h2 : y.toNatClampNeg = b) : sub vs a b d = (List.range y.toNatClampNeg).map fun i => vs.getD (x.toNatClampNeg + i) d := by rw [h1, h2]; rfl
theorem cp_ins {Z : State} {h : Heap} {q : Addr} {kc : ClassId} {ty : FieldType} {z x y : Int32} {a b : Nat} {vd us : List Value} {d : Value} (h1 : x.toNatClampNeg = a) (h2 : y.toNatClampNeg = b) (V : Arv Z h q kc ty z (vd.take x.toNatClampNeg ++ us ++ vd.drop (x.toNatClampNeg + y.toNatClampNeg)) d) : Arv Z h q kc ty z (ins vd us a b) d := by rw [h1, h2] at V; exact V
end Jvm.OwnKit

namespace Jvm.Pilot.@@N@@
open Jvm Jvm.ClassFile Sem Op Lib Jvm.Free Jvm.Stand Jvm.LawKit Jvm.RoadKit Jvm.OwnKit Bundle Jvm.Pilot.@@N@@.Jvm.D
abbrev Dc (b : ByteArray) (p : Nat) (i : Instr) (n : Nat) : Prop := decode b p = .ok (i, n)
abbrev vi (x : Int32) : Slot := .val (.int x)
abbrev vr (a : Addr) : Slot := .val (.ref a)
abbrev uS : Slot := .unset
abbrev HW (a0 : Array Value) (Z : State) : Prop := ∀ d ∈ tables_1, d.before a0 Z = true
abbrev tSC (Z : State) (zC : Int32) : Prop := Sta Z Z.heap "java/lang/String" "COMPACT_STRINGS" "Z" (.int zC)
abbrev tSF (Z : State) (vF : Value) : Prop := Sta Z Z.heap "jdk/internal/util/Preconditions" "SIOOBE_FORMATTER" "Ljava/util/function/BiFunction;" vF
set_option maxRecDepth 65536
set_option maxHeartbeats 40000000
abbrev iv (x : Int32) : Value := .int x
abbrev sT0 : String := "java/lang/String"
abbrev sT1 : String := "java/lang/AbstractStringBuilder"
abbrev sT2 : String := "com/example/usage_throttle/usagethrottle/model/EndpointPattern"
abbrev sT3 : String := "com/example/usage_throttle/usagethrottle/model/EndpointPatternMatchesPinLaw"
def GB (l : Launch) (a0 : Array Value) (Z : State) (zC : Int32) (vF : Value) : Prop := (tSC Z zC) ∧ (¬ zC = (0 : Int32)) ∧ (vF = .null ∨ ∃ a, vF = .ref a) ∧ (tSF Z vF)
abbrev kC0 : ByteArray := jdk_65_method_133_code
abbrev kC1 : ByteArray := jdk_42_method_154_code
abbrev kC2 : ByteArray := jdk_42_method_126_code
abbrev kC3 : ByteArray := jdk_42_method_151_code
abbrev kC4 : ByteArray := jdk_65_method_132_code
abbrev kC5 : ByteArray := jdk_42_method_152_code
abbrev kC6 : ByteArray := jdk_65_method_131_code
abbrev kC7 : ByteArray := jdk_42_method_158_code
abbrev kC8 : ByteArray := jdk_42_method_150_code
abbrev kC9 : ByteArray := jdk_42_method_155_code
abbrev kC10 : ByteArray := jdk_68_method_68_code
abbrev kC11 : ByteArray := jdk_41_method_11_code
abbrev kC12 : ByteArray := prog_13_method_4_code
abbrev kC13 : ByteArray := jdk_42_method_56_code
abbrev kC14 : ByteArray := jdk_42_method_53_code
abbrev kC15 : ByteArray := jdk_42_method_92_code
abbrev kC16 : ByteArray := jdk_29_method_69_code
abbrev kC17 : ByteArray := jdk_43_method_24_code
abbrev kC18 : ByteArray := jdk_68_method_64_code
abbrev kC19 : ByteArray := prog_13_method_1_code
abbrev kC20 : ByteArray := jdk_67_method_93_code
abbrev kC21 : ByteArray := jdk_42_method_54_code
abbrev kC22 : ByteArray := prog_13_method_3_code
abbrev kC23 : ByteArray := jdk_29_method_65_code
abbrev kC24 : ByteArray := jdk_43_method_13_code
abbrev kC25 : ByteArray := prog_13_method_5_code
abbrev kC26 : ByteArray := jdk_67_method_14_code
abbrev kC27 : ByteArray := jdk_42_method_75_code
abbrev kC28 : ByteArray := jdk_67_method_42_code
abbrev kC29 : ByteArray := jdk_43_method_23_code
abbrev kC30 : ByteArray := jdk_42_method_80_code
abbrev kC31 : ByteArray := jdk_42_method_76_code
abbrev kC32 : ByteArray := jdk_42_method_73_code
abbrev kC33 : ByteArray := jdk_42_method_66_code
abbrev kC34 : ByteArray := jdk_48_method_14_code
abbrev kC35 : ByteArray := jdk_42_method_79_code
abbrev kC36 : ByteArray := jdk_42_method_77_code
abbrev kC37 : ByteArray := jdk_68_method_31_code
abbrev kC38 : ByteArray := jdk_43_method_47_code
abbrev kC39 : ByteArray := jdk_41_method_12_code
abbrev kC40 : ByteArray := jdk_43_method_25_code
abbrev kC41 : ByteArray := jdk_43_method_22_code
abbrev kC42 : ByteArray := jdk_42_method_97_code
abbrev kC43 : ByteArray := jdk_42_method_84_code
abbrev kC44 : ByteArray := jdk_43_method_3_code
abbrev kC45 : ByteArray := jdk_68_method_6_code
abbrev kC46 : ByteArray := jdk_42_method_3_code
abbrev kC47 : ByteArray := jdk_43_method_2_code
abbrev kC48 : ByteArray := jdk_68_method_2_code
abbrev kC49 : ByteArray := jdk_43_method_4_code
abbrev kC50 : ByteArray := jdk_67_method_2_code
abbrev kC51 : ByteArray := jdk_68_method_9_code
abbrev kC52 : ByteArray := jdk_30_method_1_code
abbrev kC53 : ByteArray := object_method_1_code
abbrev kC54 : ByteArray := method_3_code
abbrev kC55 : ByteArray := method_5_code
abbrev kC56 : ByteArray := method_4_code
abbrev kC57 : ByteArray := method_7_code
abbrev kC58 : ByteArray := method_6_code
abbrev kC59 : ByteArray := method_8_code
theorem wat {a0 : Array Value} {Z : State} (hw : HW a0 Z) (i : Nat) {d : Jvm.Cond} (q : tables_1[i]? = some d) : d.before a0 Z = true := hw _ (List.mem_of_getElem? q)
abbrev BW (a0 : Array Value) (Z : State) (d : Jvm.Cond) : Prop := d.before a0 Z = true
variable {a0 : Array Value} {Z : State}
abbrev sT4 : String := "java/lang/StringBuilder"
abbrev sT5 : String := "java/lang/StringLatin1"
abbrev sT6 : String := "(Ljava/lang/String;)Z"
abbrev sT7 : String := "()Ljava/lang/String;"
abbrev sT8 : String := "jdk/internal/util/Preconditions"
def chr (x : Int32) : Int32 := (x &&& 255).toUInt32.toUInt16.toUInt32.toInt32
theorem chr_eq (x : Int32) : chr x = x &&& 255 := i2c_mask x
theorem chr_rng (x : Int32) : ¬ chr x < 0 ∧ ¬ (255 : Int32) < chr x := by
  rw [chr_eq]
  have h := c_mask x 255 8 (by decide) (by decide)
  simp only [Int32.lt_iff_toInt_lt]
  have h0 : (0 : Int32).toInt = 0 := by decide
  have h1 : (255 : Int32).toInt = 255 := by decide
  rw [h, h0, h1]
  have : (2 ^ 8 : Nat) = 256 := by decide
  omega
theorem chr_nar (x : Int32) : nar .char (chr x) = chr x := by simp only [nar, chr, UInt32.toUInt32_toInt32, UInt16.toUInt16_toUInt32]
theorem al0 {P : Int32 → Prop} : ∀ c ∈ ([] : List Int32), P c := fun _ q => nomatch q
theorem alS {P : Int32 → Prop} {y : Int32} {L : List Int32} (q : P y) (r : ∀ x ∈ L, P x) : ∀ x ∈ y :: L, P x := fun x z => (List.mem_cons.mp z).elim (fun u => u ▸ q) (r x)
theorem shr_zero (x : Int32) : x >>> ((0 : Int32) &&& 31) = x := by
  rw [show ((0 : Int32) &&& 31) = 0 from by decide]
  exact Int32.toInt_inj.mp (by rw [show x >>> (0 : Int32) = x >>> ((0 : Int32) &&& 31) from by rw [show ((0 : Int32) &&& 31) = 0 from by decide], c_ishr x 0 0 (by decide)]; simp)
theorem lo8_nar (x : Int32) : nar .byte (StrChars.lo8 x) = StrChars.lo8 x := by simp [nar, StrChars.lo8]
abbrev EL : List (String × Nat) := [("com/example/usage_throttle/usagethrottle/model/EndpointPattern", 40), ("com/example/usage_throttle/usagethrottle/model/EndpointPattern", 48), ("com/example/usage_throttle/usagethrottle/model/EndpointPattern", 65), ("com/example/usage_throttle/usagethrottle/model/EndpointPattern", 74), ("com/example/usage_throttle/usagethrottle/model/EndpointPatternMatchesPinLaw", 45), ("com/example/usage_throttle/usagethrottle/model/EndpointPatternMatchesPinLaw", 47), ("com/example/usage_throttle/usagethrottle/model/EndpointPatternMatchesPinLaw", 54), ("com/example/usage_throttle/usagethrottle/model/EndpointPatternMatchesPinLaw", 56), ("java/lang/StringLatin1", 151)]
theorem wd306 (hw : HW a0 Z) : BW a0 Z (.stringLink sT5 (151 : Nat) "") := wat hw 306 rfl
theorem wd24 (hw : HW a0 Z) : BW a0 Z (.stringLink sT3 (56 : Nat) "") := wat hw 24 rfl
theorem wd137 (hw : HW a0 Z) : BW a0 Z (.stringLink sT3 (54 : Nat) "/*") := wat hw 137 rfl
theorem wd305 (hw : HW a0 Z) : BW a0 Z (.stringLink sT3 (47 : Nat) "/") := wat hw 305 rfl
theorem wd8 (hw : HW a0 Z) : BW a0 Z (.stringLink sT3 (45 : Nat) "*") := wat hw 8 rfl
theorem wd111 (hw : HW a0 Z) : BW a0 Z (.stringLink sT2 (74 : Nat) "//") := wat hw 111 rfl
theorem wd201 (hw : HW a0 Z) : BW a0 Z (.stringLink sT2 (65 : Nat) "/") := wat hw 201 rfl
theorem wd42 (hw : HW a0 Z) : BW a0 Z (.stringLink sT2 (48 : Nat) "/*") := wat hw 42 rfl
theorem wd66 (hw : HW a0 Z) : BW a0 Z (.stringLink sT2 (40 : Nat) "*") := wat hw 66 rfl
theorem own_EW {a0 : Array Value} {Z : State} (hw : HW a0 Z) : EW Z a0 EL := EW.cons (wd66 hw) (by decide) (EW.cons (wd42 hw) (by decide) (EW.cons (wd201 hw) (by decide) (EW.cons (wd111 hw) (by decide) (EW.cons (wd8 hw) (by decide) (EW.cons (wd305 hw) (by decide) (EW.cons (wd137 hw) (by decide) (EW.cons (wd24 hw) (by decide) (EW.cons (wd306 hw) (by decide) (EW.nil)))))))))
theorem own_wS {a0 : Array Value} {Z : State} (hw : HW a0 Z) : ∀ d ∈ Bundle.stringAtoms, d.before a0 Z = true := fun d hd => hw d ((by decide +kernel : ∀ d ∈ Bundle.stringAtoms, d ∈ tables_1) d hd)
theorem own_wStr {a0 : Array Value} {Z : State} (hw : HW a0 Z) : ∀ d ∈ StrChars.Road.words, d.before a0 Z = true := fun d hd => hw d ((by decide +kernel : ∀ d ∈ StrChars.Road.words, d ∈ tables_1) d hd)
theorem sub_zero32 (x : Int32) : x - (0 : Int32) = x := by simp
/-- every value of a byte, asked one by one -/
theorem all256 {P : Int32 → Prop} [DecidablePred P] (h : ∀ n : Fin 256, P (Int32.ofNat n.val)) {c : Int32} (h0 : ¬ c < 0) (h1 : ¬ (255 : Int32) < c) : P c := by
  have e0 : (0 : Int32).toInt = 0 := by decide
  have e1 : (255 : Int32).toInt = 255 := by decide
  simp only [Int32.lt_iff_toInt_lt, e0, e1] at h0 h1
  have hn : c.toInt.toNat < 256 := by omega
  have q := h ⟨c.toInt.toNat, hn⟩
  have e : Int32.ofNat c.toInt.toNat = c := by
    apply Int32.toInt_inj.mp
    rw [Int32.toInt_ofNat']
    have : (c.toInt.toNat : Int) = c.toInt := by omega
    rw [this]
    have r := Int32.le_toInt c
    have r2 := Int32.toInt_lt c
    have sz : Int32.size = 4294967296 := rfl
    exact Int.bmod_eq_of_le (by omega) (by omega)
  rw [← e]; exact q
theorem back8 {c : Int32} (h0 : ¬ c < 0) (h1 : ¬ (255 : Int32) < c) : (StrChars.lo8 c) &&& 255 = c := all256 (P := fun c => (StrChars.lo8 c) &&& 255 = c) (by decide +kernel) h0 h1
theorem i2c255 {c : Int32} (h0 : ¬ c < 0) (h1 : ¬ (255 : Int32) < c) : c.toUInt32.toUInt16.toUInt32.toInt32 = c := all256 (P := fun c => c.toUInt32.toUInt16.toUInt32.toInt32 = c) (by decide +kernel) h0 h1
theorem nar_of255 {c : Int32} (h0 : ¬ c < 0) (h1 : ¬ (255 : Int32) < c) : nar .char c = c := all256 (P := fun c => nar .char c = c) (by decide +kernel) h0 h1
theorem on_sub {a b : Nat} (h : b ≤ a) (ha : a < 2147483648) : Int32.ofNat a - Int32.ofNat b = Int32.ofNat (a - b) := by
  apply Int32.toInt_inj.mp
  have h2 := c_isub (Int32.ofNat a) (Int32.ofNat b)
  have r2 := rng32 (Int32.ofNat a - Int32.ofNat b)
  rw [on_int ha, on_int (i := b) (by omega)] at h2
  rw [on_int (i := a - b) (by omega)]
  omega
theorem on_add (a b : Nat) : Int32.ofNat a + Int32.ofNat b = Int32.ofNat (a + b) := (Int32.ofNat_add ..).symm
theorem on_le {a b : Nat} (h : a ≤ b) (hb : b < 2147483648) : ¬ Int32.ofNat b < Int32.ofNat a := by
  rw [Int32.lt_iff_toInt_lt, on_int hb, on_int (by omega)]; omega
theorem map_getD {cs : List Int32} {n i : Nat} {f : Int32 → Value} {d : Value} (Hn : cs.length = n) (h : i < n) : (cs.map f).getD i d = f (cs.getD i 0) := by
  have h' : i < cs.length := by omega
  simp [List.getD_eq_getElem?_getD, h']
theorem rng_of {cs : List Int32} {n i : Nat} {y : Int32} {P : Int32 → Prop} (Hr : ∀ x ∈ cs, P x) (Hn : cs.length = n) (h : i < n) (hy : y = cs.getD i 0) : P y := by
  have h' : i < cs.length := by omega
  subst hy
  apply Hr
  rw [List.getD_eq_getElem?_getD, List.getElem?_eq_getElem h']
  exact List.getElem_mem h'
theorem all_step {P : Nat → Prop} {i : Nat} (q : ∀ j, j < i → P j) (h : P i) : ∀ j, j < i + 1 → P j := fun j hj => by
  rcases Nat.lt_or_eq_of_le (Nat.le_of_lt_succ hj) with h1 | h1
  · exact q j h1
  · rw [h1]; exact h
def lo8V (x : Int32) : Value := .int (StrChars.lo8 x)
def ALL (cs : List Int32) : Prop := ∀ x ∈ cs, ¬ x < 0 ∧ ¬ (255 : Int32) < x
theorem lo8_inj {a b : Int32} (h0 : ¬ a < 0) (h1 : ¬ (255 : Int32) < a) (g0 : ¬ b < 0) (g1 : ¬ (255 : Int32) < b) (h : StrChars.lo8 a = StrChars.lo8 b) : a = b := by rw [← back8 h0 h1, ← back8 g0 g1, h]
def IXP (cs : List Int32) (ch ix : Int32) : Prop := (∃ j : Nat, j < cs.length ∧ ix = Int32.ofNat j ∧ cs.getD j 0 = ch ∧ ∀ k, k < j → ¬ cs.getD k 0 = ch) ∨ (ix = -1 ∧ ∀ k, k < cs.length → ¬ cs.getD k 0 = ch)
theorem ins_all {X : List Value} {v : Value} {n : Nat} (h : X.length = n) : ins (List.replicate n v) X 0 n = X := by
  simp [ins, h]
theorem eq_two {a b : Int32} (h1 : ¬ a < b) (h2 : ¬ b < a) : a = b := by
  apply Int32.toInt_inj.mp
  simp only [Int32.lt_iff_toInt_lt] at h1 h2
  omega
theorem tk_sub {cs : List Int32} {n m : Nat} (Hn : cs.length = n) (h : m ≤ n) : sub (cs.map lo8V) 0 m (.int 0) = (List.take m cs).map lo8V := by
  apply List.ext_getElem (by rw [sub_len]; simp; omega)
  intro j h1 h2
  rw [sub_len] at h1
  simp [sub, List.getD_eq_getElem?_getD, show j < cs.length by omega]
theorem tk_get {cs : List Int32} {e k : Nat} (h : k < e) : (List.take e cs).getD k 0 = cs.getD k 0 := by
  rw [List.getD_eq_getElem?_getD, List.getD_eq_getElem?_getD, List.getElem?_take_of_lt h]
theorem tk_all {cs : List Int32} {m : Nat} (Hr : ALL cs) : ALL (List.take m cs) := fun x hx => Hr x (List.mem_of_mem_take hx)
theorem tk_len {cs : List Int32} {n m : Nat} (Hn : cs.length = n) (h : m ≤ n) : (List.take m cs).length = m := by rw [List.length_take]; omega
def BIT (b : Int32) (P : Prop) : Prop := (P ∧ b = 1) ∨ (¬ P ∧ b = 0)
def EQS (cs : List Int32) (o : Nat) (ds : List Int32) (u m : Nat) : Prop := ∀ j, j < m → cs.getD (o + j) 0 = ds.getD (u + j) 0
def MMP (cs : List Int32) (o : Nat) (ds : List Int32) (u m : Nat) (ix : Int32) : Prop := (EQS cs o ds u m ∧ ix = -1) ∨ (¬ EQS cs o ds u m ∧ ¬ ix < 0)
theorem on_subl {n m k : Nat} (hn : n < 1000) (hm : m < 1000) (hk : k < 1000) (h : n < k + m) : Int32.ofNat n - Int32.ofNat m < Int32.ofNat k := by
  have h2 := c_isub (Int32.ofNat n) (Int32.ofNat m)
  have r2 := rng32 (Int32.ofNat n - Int32.ofNat m)
  rw [on_int (i := n) (by omega), on_int (i := m) (by omega)] at h2
  rw [Int32.lt_iff_toInt_lt, on_int (i := k) (by omega)]
  omega
theorem ext_all {cs ds : List Int32} {n : Nat} (h1 : cs.length = n) (h2 : ds.length = n) (q : ∀ j, j < n → cs.getD j 0 = ds.getD j 0) : cs = ds := by
  apply List.ext_getElem (by omega)
  intro j g1 g2
  have g3 := q j (by omega)
  rw [List.getD_eq_getElem?_getD, List.getD_eq_getElem?_getD, List.getElem?_eq_getElem g1, List.getElem?_eq_getElem g2] at g3
  exact g3
theorem same_str {Z : State} {h : Heap} {a1 a2 t1 t2 : Addr} {k1 k2 : ClassId} {cs ds : List Int32} {n m : Nat} (hq : a1 = a2) (F1 : Fld Z h a1 sT0 "value" "[B" (.ref t1)) (F2 : Fld Z h a2 sT0 "value" "[B" (.ref t2)) (A1 : Arv Z h t1 k1 .byte (Int32.ofNat n) (cs.map lo8V) (.int 0)) (A2 : Arv Z h t2 k2 .byte (Int32.ofNat m) (ds.map lo8V) (.int 0))
    (l1 : cs.length = n) (l2 : ds.length = m) (b1 : n ≤ 1000) (b2 : m ≤ 1000) (R1 : ALL cs) (R2 : ALL ds) : cs = ds := by
  subst hq
  obtain rfl : t1 = t2 := Value.ref.inj (fld_inj F1 F2)
  obtain ⟨c1, ⟨x1, -⟩, -, s1, -, H1, -⟩ := A1
  obtain ⟨c2, ⟨x2, -⟩, -, s2, -, H2, -⟩ := A2
  cases x1.symm.trans x2
  rw [on_clamp (by omega)] at s1 s2
  have e : n = m := s1.symm.trans s2
  subst e
  refine ext_all l1 l2 fun j hj => ?_
  have g1 := H1 j (by omega)
  have g2 := H2 j (by omega)
  rw [map_getD l1 hj] at g1
  rw [map_getD l2 hj] at g2
  have g3 := Option.some.inj (g1.symm.trans g2)
  have q1 := rng_of R1 l1 hj rfl
  have q2 := rng_of R2 l2 hj rfl
  exact lo8_inj q1.1 q1.2 q2.1 q2.2 (Value.int.inj g3)
def DS (cs : List Int32) (j : Nat) : Prop := cs.getD j 0 = 47 ∧ cs.getD (j + 1) 0 = 47
def DSL (cs : List Int32) : Prop := ∃ j, j + 1 < cs.length ∧ DS cs j
def IXS (cs : List Int32) (ix : Int32) : Prop := (DSL cs ∧ ¬ ix < 0) ∨ (¬ DSL cs ∧ ix = -1)
theorem ds_step {cs : List Int32} {n i : Nat} (q : ∀ j, j < i → j + 1 < n → ¬ DS cs j) (h : ¬ DS cs i) : ∀ j, j < i + 1 → j + 1 < n → ¬ DS cs j := fun j hj hn => by
  rcases Nat.lt_or_eq_of_le (Nat.le_of_lt_succ hj) with h1 | h1
  · exact q j h1 hn
  · rw [h1]; exact h
theorem ds_last {cs : List Int32} {n i : Nat} (q : ∀ j, j < i → j + 1 < n → ¬ DS cs j) (h : ¬ i + 1 < n) : ∀ j, j < i + 1 → j + 1 < n → ¬ DS cs j := fun j hj hn => by
  rcases Nat.lt_or_eq_of_le (Nat.le_of_lt_succ hj) with h1 | h1
  · exact q j h1 hn
  · rw [h1] at hn; exact absurd hn h
theorem l47 {y : Int32} (h0 : ¬ y < 0) (h1 : ¬ (255 : Int32) < y) (h : StrChars.lo8 y = 47) : y = 47 := lo8_inj h0 h1 (by decide) (by decide) (h.trans (by decide))
theorem set_mid : ∀ (A : List Value) (x v : Value) (r : List Value), (A ++ x :: r).set A.length v = A ++ v :: r
  | [], _, _, _ => rfl
  | a :: A, x, v, r => by show a :: ((A ++ x :: r).set A.length v) = _; rw [set_mid A x v r]; rfl
def KEEP (cs : List Int32) (i : Nat) : Prop := ¬ (cs.getD i 0 = 47 ∧ ¬ i = 0 ∧ cs.getD (i - 1) 0 = 47)
instance (cs : List Int32) (i : Nat) : Decidable (KEEP cs i) := by unfold KEEP; infer_instance
def sqz (cs : List Int32) : Nat → List Int32
  | 0 => []
  | i + 1 => if KEEP cs i then sqz cs i ++ [cs.getD i 0] else sqz cs i
theorem sqz_yes {cs : List Int32} {i : Nat} (h : KEEP cs i) : sqz cs (i + 1) = sqz cs i ++ [cs.getD i 0] := if_pos h
theorem sqz_no {cs : List Int32} {i : Nat} (h : ¬ KEEP cs i) : sqz cs (i + 1) = sqz cs i := if_neg h
theorem sqz_le (cs : List Int32) : ∀ i, (sqz cs i).length ≤ i
  | 0 => Nat.le_refl _
  | i + 1 => by
    have q := sqz_le cs i
    by_cases h : KEEP cs i
    · rw [sqz_yes h, List.length_append]; simp; omega
    · rw [sqz_no h]; omega
theorem sqz_mono (cs : List Int32) (i : Nat) : ∀ k, (sqz cs (i + k)).length ≤ (sqz cs i).length + k
  | 0 => Nat.le_refl _
  | k + 1 => by
    have q := sqz_mono cs i k
    by_cases h : KEEP cs (i + k)
    · rw [← Nat.add_assoc, sqz_yes h, List.length_append]; simp; omega
    · rw [← Nat.add_assoc, sqz_no h]; omega
theorem sqz_lt {cs : List Int32} (h : DSL cs) : (sqz cs cs.length).length < cs.length := by
  obtain ⟨j, h1, h2, h3⟩ := h
  have hk : ¬ KEEP cs (j + 1) := fun z => z ⟨h3, by omega, by simpa using h2⟩
  have q1 := sqz_le cs (j + 1)
  have q2 := sqz_no hk
  have q3 := sqz_mono cs (j + 1 + 1) (cs.length - (j + 2))
  rw [show j + 1 + 1 + (cs.length - (j + 2)) = cs.length by omega, q2] at q3
  omega
theorem sqz_pos {cs : List Int32} : ∀ i, 0 < i → 0 < (sqz cs i).length
  | 0, h => absurd h (Nat.lt_irrefl _)
  | 1, _ => by rw [sqz_yes (i := 0) (fun z => z.2.1 rfl)]; simp
  | i + 2, _ => by
    have q := sqz_pos (cs := cs) (i + 1) (Nat.succ_pos _)
    by_cases h : KEEP cs (i + 1)
    · rw [sqz_yes h, List.length_append]; omega
    · rw [sqz_no h]; exact q
theorem sqz_all {cs : List Int32} (h : ¬ DSL cs) : ∀ i, i ≤ cs.length → sqz cs i = List.take i cs
  | 0, _ => rfl
  | i + 1, hi => by
    have q := sqz_all h i (by omega)
    have hk : KEEP cs i := fun z => h ⟨i - 1, by have := z.2.1; omega, z.2.2, by rw [show i - 1 + 1 = i by have := z.2.1; omega]; exact z.1⟩
    have h' : i < cs.length := by omega
    rw [sqz_yes hk, q, List.take_add_one, List.getD_eq_getElem?_getD, List.getElem?_eq_getElem h']; rfl
theorem sqz_ALL {cs : List Int32} (hr : ALL cs) : ∀ i, i ≤ cs.length → ALL (sqz cs i)
  | 0, _ => fun x hx => nomatch hx
  | i + 1, hi => by
    have q := sqz_ALL hr i (by omega)
    by_cases h : KEEP cs i
    · rw [sqz_yes h]
      intro x hx
      rcases List.mem_append.mp hx with hx | hx
      · exact q x hx
      · rw [List.mem_singleton.mp hx]; exact rng_of hr rfl (show i < cs.length by omega) rfl
    · rw [sqz_no h]; exact q
theorem set_rep {A : List Value} {c r : Nat} {v w : Value} (h : A.length = c) (hr : 0 < r) : (A ++ List.replicate r w).set c v = (A ++ [v]) ++ List.replicate (r - 1) w := by
  subst h
  obtain ⟨k, rfl⟩ : ∃ k, r = k + 1 := ⟨r - 1, by omega⟩
  rw [List.replicate_succ, set_mid]
  simp
def NRM (cs ls : List Int32) : Prop := ∃ e : Nat, e ≤ cs.length ∧ (e = cs.length ∨ cs.getD e 0 = 63) ∧ (∀ k, k < e → ¬ cs.getD k 0 = 63) ∧ ls = sqz (List.take e cs) e
theorem sub_app {A R : List Value} {c : Nat} {d : Value} (h : A.length = c) : sub (A ++ R) 0 c d = A := by
  apply List.ext_getElem (by rw [sub_len, h])
  intro j h1 h2
  simp [sub, List.getD_eq_getElem?_getD, List.getElem?_append_left h2, h2]
theorem vq_len {ds : List Int32} {n i : Nat} (hi : i ≤ n) : ((sqz ds i).map lo8V ++ List.replicate (n - (sqz ds i).length) (Value.int 0)).length = n := by
  have q := sqz_le ds i
  rw [List.length_append, List.length_map, List.length_replicate]; omega
theorem vq_yes {ds : List Int32} {n i : Nat} {y : Int32} (hi : i < n) (hk : KEEP ds i) (hy : y = ds.getD i 0) : ((sqz ds i).map lo8V ++ List.replicate (n - (sqz ds i).length) (Value.int 0)).set (sqz ds i).length (.int (StrChars.lo8 y)) = (sqz ds (i + 1)).map lo8V ++ List.replicate (n - (sqz ds (i + 1)).length) (.int 0) := by
  have q := sqz_le ds i
  rw [set_rep (by rw [List.length_map]) (by omega), sqz_yes hk, List.map_append, List.length_append, hy, Nat.sub_sub]
  rfl
theorem len_yes {ds : List Int32} {i : Nat} (hk : KEEP ds i) : (sqz ds (i + 1)).length = (sqz ds i).length + 1 := by rw [sqz_yes hk, List.length_append]; rfl
def REG (a b : List Int32) (k : Nat) : Prop := k ≤ a.length ∧ k ≤ b.length ∧ EQS a 0 b 0 k
theorem rg_le {n k : Nat} (hn : n < 1000) (hk : k < 1000) (h : k ≤ n) : ¬ (0 : Int32) < lcmpW (0 : Int64) ((Int32.ofNat n).toInt64 - (Int32.ofNat k).toInt64) := by
  rw [lw_gt, Int64.lt_iff_toInt_lt]
  have h1 := c_lsub (Int32.ofNat n).toInt64 (Int32.ofNat k).toInt64
  have r := rng64 ((Int32.ofNat n).toInt64 - (Int32.ofNat k).toInt64)
  rw [c_i2l, c_i2l, on_int (i := n) (by omega), on_int (i := k) (by omega)] at h1
  have e0 : (0 : Int64).toInt = 0 := by decide
  rw [e0]; omega
theorem rg_gt {n k : Nat} (hn : n < 1000) (hk : k < 1000) (h : n < k) : (0 : Int32) < lcmpW (0 : Int64) ((Int32.ofNat n).toInt64 - (Int32.ofNat k).toInt64) := by
  rw [lw_gt, Int64.lt_iff_toInt_lt]
  have h1 := c_lsub (Int32.ofNat n).toInt64 (Int32.ofNat k).toInt64
  have r := rng64 ((Int32.ofNat n).toInt64 - (Int32.ofNat k).toInt64)
  rw [c_i2l, c_i2l, on_int (i := n) (by omega), on_int (i := k) (by omega)] at h1
  have e0 : (0 : Int64).toInt = 0 := by decide
  rw [e0]; omega
def ENDW (ps : List Int32) (n : Nat) : Prop := 2 ≤ n ∧ EQS ps (n - 2) [47, 42] 0 2
def QOK (qs : List Int32) : Prop := (1 ≤ qs.length ∧ EQS qs 0 [47] 0 1) ∧ (∀ k, k < qs.length → ¬ qs.getD k 0 = 63) ∧ ¬ DSL qs ∧ ∀ k, k < qs.length → ¬ qs.getD k 0 = 42
def OKP (ps : List Int32) (n : Nat) : Prop := [42] = ps ∨ (ENDW ps n ∧ QOK (List.take (n - 1) ps)) ∨ (¬ ENDW ps n ∧ QOK ps)
def MATCH (ps : List Int32) (m : Nat) (ls : List Int32) (nl : Nat) : Prop := [42] = ps ∨ (¬ [42] = ps ∧ ((ENDW ps m ∧ (REG ls ps (m - 2 + 1) ∨ (0 < m - 2 ∧ nl = m - 2 ∧ REG ls ps (m - 2)))) ∨ (¬ ENDW ps m ∧ ls = ps)))
theorem e8_0 : Dc kC5 0 (.getstatic 38) 3 := by decide +kernel
theorem wd59 (hw : HW a0 Z) : BW a0 Z (.fieldLink sT0 (38 : Nat) sT0 "COMPACT_STRINGS" "Z") := wat hw 59 rfl
theorem e8_3 : Dc kC5 3 (.ifCond .eq 10) 3 := by decide +kernel
theorem e8_6 : Dc kC5 6 (.aload_n 0) 1 := by decide +kernel
theorem e8_7 : Dc kC5 7 (.getfield 15) 3 := by decide +kernel
theorem wd60 (hw : HW a0 Z) : BW a0 Z (.fieldLink sT0 (15 : Nat) sT0 "coder" "B") := wat hw 60 rfl
theorem e8_10 : Dc kC5 10 (.goto 4) 3 := by decide +kernel
theorem e8_14 : Dc kC5 14 .ireturn 1 := by decide +kernel
def Q_coder0 (Z : State) (zC : Int32) (vF : Value) (a1 : Addr) (h0 : Heap) (v : Option Value) (h : Heap) (L : List Loc) : Prop := v = some (iv 0) ∧ Fr Z.heap.size L ∧ h = h0
theorem pn0 : plainName "java/lang/String" = true := by first | (simp [plainName, overriddenIn]; done) | decide +kernel
theorem rm_coder0 (l : Launch) (Z : State) (a0 : Array Value) (hw : HW a0 Z) (zC : Int32) (vF : Value) (G : GB l a0 Z zC vF) (a1 : Addr) (h0 : Heap) (O0 : Old Z Z.heap.size h0) (P1 : Fld Z h0 a1 sT0 "coder" "B" (iv 0)) :
    Con l Z (⟨sT0, "coder", "()B"⟩ : MethodName) kC5 1 (some .byte) ({ frames := 0, cells := 0, slots := 0, locals := 0 } : Room) #[(.ref a1)] h0 (Q_coder0 Z zC vF a1 h0) := by
 obtain ⟨SC, PC, rF, SF⟩ := id G
 refine Con.intro (plainFor_of_name pn0) ?_
 intro p e s m below meth c T0 X0 hx Y hml hown0 hnm hret hlk hZ0 e0
 have N0 := Fr.nil Z.heap.size
 refine castGo (g' := mkF m 0 #[vr a1] []) (by first | rfl | (simp [entryFrame, mkF, argsToLocals, Value.category]; done)) ?_
 show Go _ _ _ _ (T0.setTop (mkF m 0 #[vr a1] []))
 refine g_getS X0 hx hZ0 hown0 (host := "") (Or.inl (wd59 hw)) Via.refl (SC.ext O0.2) e0 (hb Y e8_0) (q := 3) rfl ?_
 intro T21 X21 e21
 refine ifN X21 hx (hb Y e8_3) (q := 6) rfl ((if0 _ _).trans (feq PC).1) ?_
 refine aL X21 hx (hb Y e8_6) (q := 7) rfl rfl rfl ?_
 refine g_getF X21 hx hZ0 hown0 (host := "") (Or.inl (wd60 hw)) Via.refl P1 e21 (hb Y e8_7) (q := 10) rfl ?_
 intro T22 X22 e22
 refine g_goto X22 hx (hb Y e8_10) (q := 14) (by decide) (by decide) ?_
 refine endP X22 hlk (fun h => by rw [hret] at h; cases h) (lastN X22 hx (t := .byte) (z' := (0 : Int32)) hret (by simp) (by decide) (hb Y e8_14)) ?_ (by decide) (by decide)
 rw [e22]
 exact ⟨rfl, N0, rfl⟩
theorem e9_0 : Dc kC1 0 (.getstatic 38) 3 := by decide +kernel
theorem e9_3 : Dc kC1 3 (.ifCond .eq 14) 3 := by decide +kernel
theorem e9_6 : Dc kC1 6 (.aload_n 0) 1 := by decide +kernel
theorem e9_7 : Dc kC1 7 (.getfield 15) 3 := by decide +kernel
theorem e9_10 : Dc kC1 10 (.ifCond .ne 7) 3 := by decide +kernel
theorem e9_13 : Dc kC1 13 (.iconst 1) 1 := by decide +kernel
theorem e9_14 : Dc kC1 14 (.goto 4) 3 := by decide +kernel
theorem e9_18 : Dc kC1 18 .ireturn 1 := by decide +kernel
def Q_isl0 (Z : State) (zC : Int32) (vF : Value) (a1 : Addr) (h0 : Heap) (v : Option Value) (h : Heap) (L : List Loc) : Prop := v = some (iv 1) ∧ Fr Z.heap.size L ∧ h = h0
theorem rm_isl0 (l : Launch) (Z : State) (a0 : Array Value) (hw : HW a0 Z) (zC : Int32) (vF : Value) (G : GB l a0 Z zC vF) (a1 : Addr) (h0 : Heap) (O0 : Old Z Z.heap.size h0) (P1 : Fld Z h0 a1 sT0 "coder" "B" (iv 0)) :
    Con l Z (⟨sT0, "isLatin1", "()Z"⟩ : MethodName) kC1 1 (some .boolean) ({ frames := 0, cells := 0, slots := 0, locals := 0 } : Room) #[(.ref a1)] h0 (Q_isl0 Z zC vF a1 h0) := by
 obtain ⟨SC, PC, rF, SF⟩ := id G
 refine Con.intro (plainFor_of_name pn0) ?_
 intro p e s m below meth c T0 X0 hx Y hml hown0 hnm hret hlk hZ0 e0
 have N0 := Fr.nil Z.heap.size
 refine castGo (g' := mkF m 0 #[vr a1] []) (by first | rfl | (simp [entryFrame, mkF, argsToLocals, Value.category]; done)) ?_
 show Go _ _ _ _ (T0.setTop (mkF m 0 #[vr a1] []))
 refine g_getS X0 hx hZ0 hown0 (host := "") (Or.inl (wd59 hw)) Via.refl (SC.ext O0.2) e0 (hb Y e9_0) (q := 3) rfl ?_
 intro T21 X21 e21
 refine ifN X21 hx (hb Y e9_3) (q := 6) rfl ((if0 _ _).trans (feq PC).1) ?_
 refine aL X21 hx (hb Y e9_6) (q := 7) rfl rfl rfl ?_
 refine g_getF X21 hx hZ0 hown0 (host := "") (Or.inl (wd60 hw)) Via.refl P1 e21 (hb Y e9_7) (q := 10) rfl ?_
 intro T22 X22 e22
 refine ifN X22 hx (hb Y e9_10) (q := 13) rfl (by decide) ?_
 refine cI X22 hx (hb Y e9_13) (q := 14) rfl (z := 1) rfl ?_
 refine g_goto X22 hx (hb Y e9_14) (q := 18) (by decide) (by decide) ?_
 refine endP X22 hlk (fun h => by rw [hret] at h; cases h) (lastN X22 hx (t := .boolean) (z' := (1 : Int32)) hret (by simp) (by decide) (hb Y e9_18)) ?_ (by decide) (by decide)
 rw [e22]
 exact ⟨rfl, N0, rfl⟩
theorem e13_0 : Dc kC21 0 (.aload_n 0) 1 := by decide +kernel
theorem e13_1 : Dc kC21 1 (.getfield 9) 3 := by decide +kernel
theorem wd53 (hw : HW a0 Z) : BW a0 Z (.fieldLink sT0 (9 : Nat) sT0 "value" "[B") := wat hw 53 rfl
theorem e13_4 : Dc kC21 4 .arraylength 1 := by decide +kernel
theorem e13_5 : Dc kC21 5 (.aload_n 0) 1 := by decide +kernel
theorem e13_6 : Dc kC21 6 (.invokevirtual 335) 3 := by decide +kernel
theorem wd58 (hw : HW a0 Z) : BW a0 Z (.code ⟨sT0, "coder", "()B"⟩ kC5 (1 : Nat) (Option.some Jvm.ClassFile.FieldType.byte)) := wat hw 58 rfl
theorem wd9 (hw : HW a0 Z) : BW a0 Z (.initialized sT0) := wat hw 9 rfl
theorem pd0 : parseMethodDescriptor "()B" = some ⟨[], some .byte⟩ := by decide +kernel
theorem wd57 (hw : HW a0 Z) : BW a0 Z (.selects sT0 ⟨sT0, "coder", "()B"⟩ ⟨sT0, "coder", "()B"⟩) := wat hw 57 rfl
theorem wd54 (hw : HW a0 Z) : BW a0 Z (.methodLink sT0 (335 : Nat) ⟨sT0, "coder", "()B"⟩) := wat hw 54 rfl
theorem wd55 (hw : HW a0 Z) : BW a0 Z (.declares ⟨sT0, "coder", "()B"⟩) := wat hw 55 rfl
theorem wd56 (hw : HW a0 Z) : BW a0 Z (.instanceMethod ⟨sT0, "coder", "()B"⟩) := wat hw 56 rfl
theorem e13_9 : Dc kC21 9 .ishr 1 := by decide +kernel
theorem e13_10 : Dc kC21 10 .ireturn 1 := by decide +kernel
def Q_slen (Z : State) (zC : Int32) (vF : Value) (a1 t : Addr) (kb : ClassId) (us : List Value) (zz : Int32) (h0 : Heap) (v : Option Value) (h : Heap) (L : List Loc) : Prop := v = some (.int zz) ∧ Fr Z.heap.size L ∧ h = h0
theorem rm_slen (l : Launch) (Z : State) (a0 : Array Value) (hw : HW a0 Z) (zC : Int32) (vF : Value) (G : GB l a0 Z zC vF) (a1 t : Addr) (kb : ClassId) (us : List Value) (zz : Int32) (h0 : Heap) (O0 : Old Z Z.heap.size h0) (Pe : Exa Z h0 a1 sT0) (Pc : Fld Z h0 a1 sT0 "coder" "B" (iv 0)) (Pv : Fld Z h0 a1 sT0 "value" "[B" (.ref t)) (PB : Arv Z h0 t kb .byte zz us (.int 0)) :
    Con l Z (⟨sT0, "length", "()I"⟩ : MethodName) kC21 1 (some .int) ({ frames := 1, cells := 0, slots := 0, locals := 13 } : Room) #[(.ref a1)] h0 (Q_slen Z zC vF a1 t kb us zz h0) := by
 refine Con.intro (plainFor_of_name pn0) ?_
 intro p e s m below meth c T0 X0 hx Y hml hown0 hnm hret hlk hZ0 e0
 have N0 := Fr.nil Z.heap.size
 refine castGo (g' := mkF m 0 #[vr a1] []) (by first | rfl | (simp [entryFrame, mkF, argsToLocals, Value.category]; done)) ?_
 show Go _ _ _ _ (T0.setTop (mkF m 0 #[vr a1] []))
 refine aL X0 hx (hb Y e13_0) (q := 1) rfl rfl rfl ?_
 refine g_getF X0 hx hZ0 hown0 (host := "") (Or.inl (wd53 hw)) Via.refl Pv e0 (hb Y e13_1) (q := 4) rfl ?_
 intro T21 X21 e21
 refine g_len X21 hx hZ0 PB e21 (hb Y e13_4) (q := 5) rfl ?_
 refine aL X21 hx (hb Y e13_5) (q := 6) rfl rfl rfl ?_
 refine g_vi X21 hx hZ0 hown0 (wd54 hw) (wd55 hw) (notFace_of_selects (args := #[]) (mvT hZ0 (wd57 hw))) (wd57 hw) (wd56 hw) (by decide) Pe e21 (Con.back (W := 1) (rm_coder0 l Z a0 hw zC vF G a1 h0 O0 Pc) hZ0 (wd58 hw) (wd9 hw) (by decide) (by decide)) (by rw [hml]; rfl) (lenOf pd0 rfl) rfl (Nat.le_of_eq rfl) (hb Y e13_6) (q := 9) rfl (by decide) (by decide) ?_
 intro v22 T22 L22 X22 Q22
 obtain ⟨rfl, Nq22, e22⟩ := Q22
 have N22 := Fr.app N0 Nq22
 show Go _ _ _ _ (T22.setTop (mkF m 9 _ [(iv 0), (.int zz)]))
 refine g_ishr X22 hx (hb Y e13_9) (q := 10) rfl (z := zz) (shr_zero _) ?_
 refine endP X22 hlk (fun h => by rw [hret] at h; cases h) (lastI X22 hx hret (hb Y e13_10)) ?_ (by decide) (by decide)
 rw [e22]
 exact ⟨rfl, N22, rfl⟩
theorem e1_0 : Dc kC16 0 (.iload_n 0) 1 := by decide +kernel
theorem e1_1 : Dc kC16 1 (.iload_n 1) 1 := by decide +kernel
theorem e1_2 : Dc kC16 2 (.if_icmp .gt 7) 3 := by decide +kernel
theorem e1_9 : Dc kC16 9 (.iload_n 1) 1 := by decide +kernel
theorem e1_10 : Dc kC16 10 .ireturn 1 := by decide +kernel
theorem e1_5 : Dc kC16 5 (.iload_n 0) 1 := by decide +kernel
theorem e1_6 : Dc kC16 6 (.goto 4) 3 := by decide +kernel
def Q_mnr (Z : State) (zC : Int32) (vF : Value) (x0 x1 : Int32) (h0 : Heap) (v : Option Value) (h : Heap) (L : List Loc) : Prop := v = some (.int x1) ∧ Fr Z.heap.size L ∧ h = h0
theorem pf1 : plainFor (⟨"java/lang/Math", "min", "(II)I"⟩ : MethodName) = true := by decide +kernel
theorem rm_mnr (l : Launch) (Z : State) (a0 : Array Value) (hw : HW a0 Z) (zC : Int32) (vF : Value) (G : GB l a0 Z zC vF) (x0 x1 : Int32) (h0 : Heap) (O0 : Old Z Z.heap.size h0) (PM : (¬ (x0 < x1))) :
    Con l Z (⟨"java/lang/Math", "min", "(II)I"⟩ : MethodName) kC16 2 (some .int) ({ frames := 0, cells := 0, slots := 0, locals := 0 } : Room) #[(.int x0), (.int x1)] h0 (Q_mnr Z zC vF x0 x1 h0) := by
 refine Con.intro pf1 ?_
 intro p e s m below meth c T0 X0 hx Y hml hown0 hnm hret hlk hZ0 e0
 have N0 := Fr.nil Z.heap.size
 refine castGo (g' := mkF m 0 #[vi x0, vi x1] []) (by first | rfl | (simp [entryFrame, mkF, argsToLocals, Value.category]; done)) ?_
 show Go _ _ _ _ (T0.setTop (mkF m 0 #[vi x0, vi x1] []))
 refine iL X0 hx (hb Y e1_0) (q := 1) rfl rfl ?_
 refine iL X0 hx (hb Y e1_1) (q := 2) rfl rfl ?_
 by_cases hc21 : x1 < x0
 ·refine icY X0 hx (hb Y e1_2) (q := 9) (by decide) (by decide) (tlt hc21).2.2.1 ?_
  refine iL X0 hx (hb Y e1_9) (q := 10) rfl rfl ?_
  refine endP X0 hlk (fun h => by rw [hret] at h; cases h) (lastI X0 hx hret (hb Y e1_10)) ?_ (by decide) (by decide)
  rw [e0]
  exact ⟨rfl, N0, rfl⟩
 ·refine icN X0 hx (hb Y e1_2) (q := 5) rfl (flt hc21).2.2.1 ?_
  refine iL X0 hx (hb Y e1_5) (q := 6) rfl rfl ?_
  refine g_goto X0 hx (hb Y e1_6) (q := 10) (by decide) (by decide) ?_
  refine castGo (g' := mkF m 10 #[vi x0, vi x1] [(.int x1)]) (by rw [(eq_two (a := x1) (b := x0) hc21 PM)]) ?_
  refine endP X0 hlk (fun h => by rw [hret] at h; cases h) (lastI X0 hx hret (hb Y e1_10)) ?_ (by decide) (by decide)
  rw [e0]
  exact ⟨rfl, N0, rfl⟩
theorem e32_0 : Dc kC49 0 (.iload_n 0) 1 := by decide +kernel
theorem e32_1 : Dc kC49 1 (.ifCond .lt 14) 3 := by decide +kernel
theorem e32_4 : Dc kC49 4 (.iload_n 0) 1 := by decide +kernel
theorem e32_5 : Dc kC49 5 (.sipush 255) 3 := by decide +kernel
theorem e32_8 : Dc kC49 8 (.if_icmp .gt 7) 3 := by decide +kernel
theorem e32_11 : Dc kC49 11 (.iconst 1) 1 := by decide +kernel
theorem e32_12 : Dc kC49 12 (.goto 4) 3 := by decide +kernel
theorem e32_16 : Dc kC49 16 .ireturn 1 := by decide +kernel
def Q_cei (Z : State) (zC : Int32) (vF : Value) (ch : Int32) (h0 : Heap) (v : Option Value) (h : Heap) (L : List Loc) : Prop := v = some (iv 1) ∧ Fr Z.heap.size L ∧ h = h0
theorem pn2 : plainName "java/lang/StringLatin1" = true := by first | (simp [plainName, overriddenIn]; done) | decide +kernel
theorem rm_cei (l : Launch) (Z : State) (a0 : Array Value) (hw : HW a0 Z) (zC : Int32) (vF : Value) (G : GB l a0 Z zC vF) (ch : Int32) (h0 : Heap) (O0 : Old Z Z.heap.size h0) (Hc : (¬ (ch < (0 : Int32)))) (Jc : (¬ ((255 : Int32) < ch))) :
    Con l Z (⟨"java/lang/StringLatin1", "canEncode", "(I)Z"⟩ : MethodName) kC49 1 (some .boolean) ({ frames := 0, cells := 0, slots := 0, locals := 0 } : Room) #[(.int ch)] h0 (Q_cei Z zC vF ch h0) := by
 refine Con.intro (plainFor_of_name pn2) ?_
 intro p e s m below meth c T0 X0 hx Y hml hown0 hnm hret hlk hZ0 e0
 have N0 := Fr.nil Z.heap.size
 refine castGo (g' := mkF m 0 #[vi ch] []) (by first | rfl | (simp [entryFrame, mkF, argsToLocals, Value.category]; done)) ?_
 show Go _ _ _ _ (T0.setTop (mkF m 0 #[vi ch] []))
 refine iL X0 hx (hb Y e32_0) (q := 1) rfl rfl ?_
 refine ifN X0 hx (hb Y e32_1) (q := 4) rfl ((if0 _ _).trans (flt Hc).1) ?_
 refine iL X0 hx (hb Y e32_4) (q := 5) rfl rfl ?_
 refine pI X0 hx (hb Y e32_5) (q := 8) rfl (z := 255) rfl ?_
 refine icN X0 hx (hb Y e32_8) (q := 11) rfl (flt Jc).2.2.1 ?_
 refine cI X0 hx (hb Y e32_11) (q := 12) rfl (z := 1) rfl ?_
 refine g_goto X0 hx (hb Y e32_12) (q := 16) (by decide) (by decide) ?_
 refine endP X0 hlk (fun h => by rw [hret] at h; cases h) (lastN X0 hx (t := .boolean) (z' := (1 : Int32)) hret (by simp) (by decide) (hb Y e32_16)) ?_ (by decide) (by decide)
 rw [e0]
 exact ⟨rfl, N0, rfl⟩
theorem e0_0 : Dc kC23 0 (.iload_n 0) 1 := by decide +kernel
theorem e0_1 : Dc kC23 1 (.iload_n 1) 1 := by decide +kernel
theorem e0_2 : Dc kC23 2 (.if_icmp .lt 7) 3 := by decide +kernel
theorem e0_5 : Dc kC23 5 (.iload_n 0) 1 := by decide +kernel
theorem e0_6 : Dc kC23 6 (.goto 4) 3 := by decide +kernel
theorem e0_10 : Dc kC23 10 .ireturn 1 := by decide +kernel
def Q_mx00 (Z : State) (zC : Int32) (vF : Value) (h0 : Heap) (v : Option Value) (h : Heap) (L : List Loc) : Prop := v = some (iv 0) ∧ Fr Z.heap.size L ∧ h = h0
theorem pf3 : plainFor (⟨"java/lang/Math", "max", "(II)I"⟩ : MethodName) = true := by decide +kernel
theorem rm_mx00 (l : Launch) (Z : State) (a0 : Array Value) (hw : HW a0 Z) (zC : Int32) (vF : Value) (G : GB l a0 Z zC vF)  (h0 : Heap) (O0 : Old Z Z.heap.size h0)  :
    Con l Z (⟨"java/lang/Math", "max", "(II)I"⟩ : MethodName) kC23 2 (some .int) ({ frames := 0, cells := 0, slots := 0, locals := 0 } : Room) #[(iv 0), (iv 0)] h0 (Q_mx00 Z zC vF h0) := by
 refine Con.intro pf3 ?_
 intro p e s m below meth c T0 X0 hx Y hml hown0 hnm hret hlk hZ0 e0
 have N0 := Fr.nil Z.heap.size
 refine castGo (g' := mkF m 0 #[vi 0, vi 0] []) (by first | rfl | (simp [entryFrame, mkF, argsToLocals, Value.category]; done)) ?_
 show Go _ _ _ _ (T0.setTop (mkF m 0 #[vi 0, vi 0] []))
 refine iL X0 hx (hb Y e0_0) (q := 1) rfl rfl ?_
 refine iL X0 hx (hb Y e0_1) (q := 2) rfl rfl ?_
 refine icN X0 hx (hb Y e0_2) (q := 5) rfl (by decide) ?_
 refine iL X0 hx (hb Y e0_5) (q := 6) rfl rfl ?_
 refine g_goto X0 hx (hb Y e0_6) (q := 10) (by decide) (by decide) ?_
 refine endP X0 hlk (fun h => by rw [hret] at h; cases h) (lastI X0 hx hret (hb Y e0_10)) ?_ (by decide) (by decide)
 rw [e0]
 exact ⟨rfl, N0, rfl⟩
theorem e28_0 : Dc kC29 0 (.iload_n 1) 1 := by decide +kernel
theorem e28_1 : Dc kC29 1 .i2b 1 := by decide +kernel
theorem e28_2 : Dc kC29 2 (.istore 4) 2 := by decide +kernel
theorem e28_4 : Dc kC29 4 (.iload_n 2) 1 := by decide +kernel
theorem e28_5 : Dc kC29 5 (.istore 5) 2 := by decide +kernel
theorem e28_7 : Dc kC29 7 (.iload 5) 2 := by decide +kernel
theorem e28_9 : Dc kC29 9 (.iload_n 3) 1 := by decide +kernel
theorem e28_10 : Dc kC29 10 (.if_icmp .ge 21) 3 := by decide +kernel
theorem e28_31 : Dc kC29 31 (.iconst (-1)) 1 := by decide +kernel
theorem e28_32 : Dc kC29 32 .ireturn 1 := by decide +kernel
theorem e28_13 : Dc kC29 13 (.aload_n 0) 1 := by decide +kernel
theorem e28_14 : Dc kC29 14 (.iload 5) 2 := by decide +kernel
theorem e28_16 : Dc kC29 16 .baload 1 := by decide +kernel
theorem e28_17 : Dc kC29 17 (.iload 4) 2 := by decide +kernel
theorem e28_19 : Dc kC29 19 (.if_icmp .ne 6) 3 := by decide +kernel
theorem e28_22 : Dc kC29 22 (.iload 5) 2 := by decide +kernel
theorem e28_24 : Dc kC29 24 .ireturn 1 := by decide +kernel
theorem e28_25 : Dc kC29 25 (.iinc 5 1) 3 := by decide +kernel
theorem e28_28 : Dc kC29 28 (.goto (-21)) 3 := by decide +kernel
def Q_ioc (Z : State) (zC : Int32) (vF : Value) (t : Addr) (kb : ClassId) (cs : List Int32) (n : Nat) (ch : Int32) (h0 : Heap) (v : Option Value) (h : Heap) (L : List Loc) : Prop := ∃ (ix : Int32), v = some (.int ix) ∧ Fr Z.heap.size L ∧ h = h0 ∧ (IXP cs ch ix)
theorem rm_ioc (l : Launch) (Z : State) (a0 : Array Value) (hw : HW a0 Z) (zC : Int32) (vF : Value) (G : GB l a0 Z zC vF) (t : Addr) (kb : ClassId) (cs : List Int32) (n : Nat) (ch : Int32) (h0 : Heap) (O0 : Old Z Z.heap.size h0) (PB : Arv Z h0 t kb .byte (Int32.ofNat n) (cs.map lo8V) (.int 0)) (Hn : (cs.length = n)) (Hm : (n ≤ 6)) (Hr : (ALL cs)) (Hc : (¬ (ch < (0 : Int32)))) (Jc : (¬ ((255 : Int32) < ch))) :
    Con l Z (⟨"java/lang/StringLatin1", "indexOfChar", "([BIII)I"⟩ : MethodName) kC29 6 (some .int) ({ frames := 0, cells := 0, slots := 0, locals := 0 } : Room) #[(.ref t), (.int ch), (iv 0), (.int (Int32.ofNat n))] h0 (Q_ioc Z zC vF t kb cs n ch h0) := by
 refine Con.intro (plainFor_of_name pn2) ?_
 intro p e s m below meth c T0 X0 hx Y hml hown0 hnm hret hlk hZ0 e0
 have N0 := Fr.nil Z.heap.size
 refine castGo (g' := mkF m 0 #[vr t, vi ch, vi 0, vi (Int32.ofNat n), uS, uS] []) (by first | rfl | (simp [entryFrame, mkF, argsToLocals, Value.category]; done)) ?_
 show Go _ _ _ _ (T0.setTop (mkF m 0 #[vr t, vi ch, vi 0, vi (Int32.ofNat n), uS, uS] []))
 refine iL X0 hx (hb Y e28_0) (q := 1) rfl rfl ?_
 refine g_i2b X0 hx (hb Y e28_1) (q := 2) rfl (z := (StrChars.lo8 ch)) rfl ?_
 refine sIw X0 hx (hb Y e28_2) (q := 4) rfl (Ls' := #[vr t, vi ch, vi 0, vi (Int32.ofNat n), vi (StrChars.lo8 ch), uS]) rfl ?_
 refine iL X0 hx (hb Y e28_4) (q := 5) rfl rfl ?_
 refine sIw X0 hx (hb Y e28_5) (q := 7) rfl (Ls' := #[vr t, vi ch, vi 0, vi (Int32.ofNat n), vi (StrChars.lo8 ch), vi 0]) rfl ?_
 have lp21 : ∀ (k21 i21 : Nat) (T21 : State) (L21 : List Loc), i21 + k21 = n → Stand p l e ({ frames := 0, cells := 0, slots := 0, locals := 0 } : Room) s m #[(.ref t), (.int ch), (iv 0), (.int (Int32.ofNat n))] below meth c T21 L21 0 0 → T21.heap = h0 → Fr Z.heap.size L21 → (∀ j, j < i21 → ¬ cs.getD j 0 = ch) → Go p.tables e below (PEnd s (Q_ioc Z zC vF t kb cs n ch h0) ({ frames := 0, cells := 0, slots := 0, locals := 0 } : Room).cells ({ frames := 0, cells := 0, slots := 0, locals := 0 } : Room).slots) (T21.setTop (mkF m 7 #[vr t, vi ch, vi 0, vi (Int32.ofNat n), vi (StrChars.lo8 ch), vi (Int32.ofNat i21)] [])) := by
  intro k21
  induction k21 with
  | zero =>
   intro i21 T21 L21  hk21 X21 e21 N21 q1
   have hi21 : i21 = n := by omega
   have nb21 : i21 < 2147483648 := by omega
   have hz21 : ¬ (Int32.ofNat i21 < Int32.ofNat n) := by rw [hi21]; exact lt_irr
   show Go _ _ _ _ (T21.setTop (mkF m 7 #[vr t, vi ch, vi 0, vi (Int32.ofNat n), vi (StrChars.lo8 ch), vi (Int32.ofNat i21)] []))
   refine iLw X21 hx (hb Y e28_7) (q := 9) rfl rfl ?_
   refine iL X21 hx (hb Y e28_9) (q := 10) rfl rfl ?_
   refine icY X21 hx (hb Y e28_10) (q := 31) (by decide) (by decide) (flt hz21).2.1 ?_
   refine cI X21 hx (hb Y e28_31) (q := 32) rfl (z := -1) rfl ?_
   refine endP X21 hlk (fun h => by rw [hret] at h; cases h) (lastI X21 hx hret (hb Y e28_32)) ?_ (by decide) (by decide)
   rw [e21]
   exact ⟨(-1 : Int32), rfl, N21, rfl, (Or.inr ⟨rfl, fun k hk => q1 k (by omega)⟩)⟩
  | succ k21 ih =>
   intro i21 T21 L21  hk21 X21 e21 N21 q1
   have hi21 : i21 < n := by omega
   have nb21 : i21 < 2147483648 := by omega
   obtain ⟨y21, hy21⟩ : ∃ y, y = cs.getD i21 0 := ⟨_, rfl⟩
   have g21 : (cs.map lo8V).getD i21 (.int 0) = .int (StrChars.lo8 y21) := by rw [hy21]; exact map_getD Hn hi21
   have r21 := rng_of Hr Hn hi21 hy21
   show Go _ _ _ _ (T21.setTop (mkF m 7 #[vr t, vi ch, vi 0, vi (Int32.ofNat n), vi (StrChars.lo8 ch), vi (Int32.ofNat i21)] []))
   refine iLw X21 hx (hb Y e28_7) (q := 9) rfl rfl ?_
   refine iL X21 hx (hb Y e28_9) (q := 10) rfl rfl ?_
   refine icN X21 hx (hb Y e28_10) (q := 13) rfl (tlt (on_lt hi21 (show n < 2147483648 from by omega))).2.1 ?_
   refine aL X21 hx (hb Y e28_13) (q := 14) rfl rfl rfl ?_
   refine iLw X21 hx (hb Y e28_14) (q := 16) rfl rfl ?_
   refine g_ldB X21 hx hZ0 PB (i := i21) (on_clamp nb21) (on_nn nb21) (on_lt hi21 (show n < 2147483648 from by omega)) (v := (.int (StrChars.lo8 y21))) g21 e21 (hb Y e28_16) (q := 17) rfl ?_
   refine iLw X21 hx (hb Y e28_17) (q := 19) rfl rfl ?_
   by_cases hc22 : (StrChars.lo8 y21) = (StrChars.lo8 ch)
   ·refine icN X21 hx (hb Y e28_19) (q := 22) rfl (teq hc22).2 ?_
    refine iLw X21 hx (hb Y e28_22) (q := 24) rfl rfl ?_
    refine endP X21 hlk (fun h => by rw [hret] at h; cases h) (lastI X21 hx hret (hb Y e28_24)) ?_ (by decide) (by decide)
    rw [e21]
    exact ⟨(Int32.ofNat i21), rfl, N21, rfl, (Or.inl ⟨i21, by omega, rfl, (hy21.symm.trans (lo8_inj r21.1 r21.2 Hc Jc hc22)), q1⟩)⟩
   ·refine icY X21 hx (hb Y e28_19) (q := 25) (by decide) (by decide) (feq hc22).2 ?_
    refine g_iinc X21 hx (hb Y e28_25) (q := 28) rfl rfl (z := (Int32.ofNat (i21 + 1))) (on_add (i21) 1) (Ls' := #[vr t, vi ch, vi 0, vi (Int32.ofNat n), vi (StrChars.lo8 ch), vi (Int32.ofNat (i21 + 1))]) rfl ?_
    refine g_goto X21 hx (hb Y e28_28) (q := 7) (by decide) (by decide) ?_
    exact ih (i21 + 1) _ _  (by omega) X21 e21  N21 (all_step (P := fun j => ¬ cs.getD j 0 = ch) q1 (fun z => hc22 (by rw [← z, ← hy21])))
 exact lp21 (n - 0) 0 _ _  (by omega) X0 e0  N0 (fun _ q => absurd q (Nat.not_lt_zero _))
theorem e27_0 : Dc kC41 0 (.iload_n 1) 1 := by decide +kernel
theorem e27_1 : Dc kC41 1 (.invokestatic 88) 3 := by decide +kernel
theorem wd103 (hw : HW a0 Z) : BW a0 Z (.code ⟨sT5, "canEncode", "(I)Z"⟩ kC49 (1 : Nat) (Option.some Jvm.ClassFile.FieldType.boolean)) := wat hw 103 rfl
theorem wd99 (hw : HW a0 Z) : BW a0 Z (.initialized sT5) := wat hw 99 rfl
theorem pd1 : parseMethodDescriptor "(I)Z" = some ⟨[.int], some .boolean⟩ := by decide +kernel
theorem wd101 (hw : HW a0 Z) : BW a0 Z (.methodLink sT5 (88 : Nat) ⟨sT5, "canEncode", "(I)Z"⟩) := wat hw 101 rfl
theorem wd102 (hw : HW a0 Z) : BW a0 Z (.static ⟨sT5, "canEncode", "(I)Z"⟩) := wat hw 102 rfl
theorem e27_4 : Dc kC41 4 (.ifCond .ne 5) 3 := by decide +kernel
theorem e27_9 : Dc kC41 9 (.iload_n 2) 1 := by decide +kernel
theorem e27_10 : Dc kC41 10 (.iconst 0) 1 := by decide +kernel
theorem e27_11 : Dc kC41 11 (.invokestatic 92) 3 := by decide +kernel
theorem wd107 (hw : HW a0 Z) : BW a0 Z (.code ⟨"java/lang/Math", "max", "(II)I"⟩ kC23 (2 : Nat) (Option.some Jvm.ClassFile.FieldType.int)) := wat hw 107 rfl
theorem wd106 (hw : HW a0 Z) : BW a0 Z (.initialized "java/lang/Math") := wat hw 106 rfl
theorem pd2 : parseMethodDescriptor "(II)I" = some ⟨[.int, .int], some .int⟩ := by decide +kernel
theorem wd104 (hw : HW a0 Z) : BW a0 Z (.methodLink sT5 (92 : Nat) ⟨"java/lang/Math", "max", "(II)I"⟩) := wat hw 104 rfl
theorem wd105 (hw : HW a0 Z) : BW a0 Z (.static ⟨"java/lang/Math", "max", "(II)I"⟩) := wat hw 105 rfl
theorem e27_14 : Dc kC41 14 (.istore_n 2) 1 := by decide +kernel
theorem e27_15 : Dc kC41 15 (.iload_n 3) 1 := by decide +kernel
theorem e27_16 : Dc kC41 16 (.aload_n 0) 1 := by decide +kernel
theorem e27_17 : Dc kC41 17 .arraylength 1 := by decide +kernel
theorem e27_18 : Dc kC41 18 (.invokestatic 38) 3 := by decide +kernel
theorem wd110 (hw : HW a0 Z) : BW a0 Z (.code ⟨"java/lang/Math", "min", "(II)I"⟩ kC16 (2 : Nat) (Option.some Jvm.ClassFile.FieldType.int)) := wat hw 110 rfl
theorem wd108 (hw : HW a0 Z) : BW a0 Z (.methodLink sT5 (38 : Nat) ⟨"java/lang/Math", "min", "(II)I"⟩) := wat hw 108 rfl
theorem wd109 (hw : HW a0 Z) : BW a0 Z (.static ⟨"java/lang/Math", "min", "(II)I"⟩) := wat hw 109 rfl
theorem e27_21 : Dc kC41 21 (.istore_n 3) 1 := by decide +kernel
theorem e27_22 : Dc kC41 22 (.iload_n 2) 1 := by decide +kernel
theorem e27_23 : Dc kC41 23 (.iload_n 3) 1 := by decide +kernel
theorem e27_24 : Dc kC41 24 (.if_icmp .lt 5) 3 := by decide +kernel
theorem e27_27 : Dc kC41 27 (.iconst (-1)) 1 := by decide +kernel
theorem e27_28 : Dc kC41 28 .ireturn 1 := by decide +kernel
theorem e27_29 : Dc kC41 29 (.aload_n 0) 1 := by decide +kernel
theorem e27_30 : Dc kC41 30 (.iload_n 1) 1 := by decide +kernel
theorem e27_31 : Dc kC41 31 (.iload_n 2) 1 := by decide +kernel
theorem e27_32 : Dc kC41 32 (.iload_n 3) 1 := by decide +kernel
theorem e27_33 : Dc kC41 33 (.invokestatic 95) 3 := by decide +kernel
theorem wd209 (hw : HW a0 Z) : BW a0 Z (.code ⟨sT5, "indexOfChar", "([BIII)I"⟩ kC29 (6 : Nat) (Option.some Jvm.ClassFile.FieldType.int)) := wat hw 209 rfl
theorem pd3 : parseMethodDescriptor "([BIII)I" = some ⟨[(.array .byte), .int, .int, .int], some .int⟩ := by decide +kernel
theorem wd207 (hw : HW a0 Z) : BW a0 Z (.methodLink sT5 (95 : Nat) ⟨sT5, "indexOfChar", "([BIII)I"⟩) := wat hw 207 rfl
theorem wd208 (hw : HW a0 Z) : BW a0 Z (.static ⟨sT5, "indexOfChar", "([BIII)I"⟩) := wat hw 208 rfl
theorem e27_36 : Dc kC41 36 .ireturn 1 := by decide +kernel
def Q_io4 (Z : State) (zC : Int32) (vF : Value) (t : Addr) (kb : ClassId) (cs : List Int32) (n : Nat) (ch : Int32) (h0 : Heap) (v : Option Value) (h : Heap) (L : List Loc) : Prop := ∃ (ix : Int32), v = some (.int ix) ∧ Fr Z.heap.size L ∧ h = h0 ∧ (IXP cs ch ix)
theorem rm_io4 (l : Launch) (Z : State) (a0 : Array Value) (hw : HW a0 Z) (zC : Int32) (vF : Value) (G : GB l a0 Z zC vF) (t : Addr) (kb : ClassId) (cs : List Int32) (n : Nat) (ch : Int32) (h0 : Heap) (O0 : Old Z Z.heap.size h0) (PB : Arv Z h0 t kb .byte (Int32.ofNat n) (cs.map lo8V) (.int 0)) (Hn : (cs.length = n)) (Hm : (n ≤ 6)) (Hr : (ALL cs)) (Hc : (¬ (ch < (0 : Int32)))) (Jc : (¬ ((255 : Int32) < ch))) :
    Con l Z (⟨"java/lang/StringLatin1", "indexOf", "([BIII)I"⟩ : MethodName) kC41 4 (some .int) ({ frames := 1, cells := 0, slots := 0, locals := 17 } : Room) #[(.ref t), (.int ch), (iv 0), (.int (Int32.ofNat n))] h0 (Q_io4 Z zC vF t kb cs n ch h0) := by
 refine Con.intro (plainFor_of_name pn2) ?_
 intro p e s m below meth c T0 X0 hx Y hml hown0 hnm hret hlk hZ0 e0
 have N0 := Fr.nil Z.heap.size
 refine castGo (g' := mkF m 0 #[vr t, vi ch, vi 0, vi (Int32.ofNat n)] []) (by first | rfl | (simp [entryFrame, mkF, argsToLocals, Value.category]; done)) ?_
 show Go _ _ _ _ (T0.setTop (mkF m 0 #[vr t, vi ch, vi 0, vi (Int32.ofNat n)] []))
 refine iL X0 hx (hb Y e27_0) (q := 1) rfl rfl ?_
 refine g_st X0 hx hZ0 hown0 (wd101 hw) (wd102 hw) (wd99 hw) (wd103 hw) (by decide) e0 (Con.back (W := 0) (rm_cei l Z a0 hw zC vF G ch h0 O0 Hc Jc) hZ0 (wd103 hw) (wd99 hw) (by decide) (by decide)) (by rw [hml]; rfl) (lenOf pd1 rfl) rfl (Nat.le_of_eq rfl) (hb Y e27_1) (q := 4) rfl (by decide) (by decide) ?_
 intro v21 T21 L21 X21 Q21
 obtain ⟨rfl, Nq21, e21⟩ := Q21
 have N21 := Fr.app N0 Nq21
 show Go _ _ _ _ (T21.setTop (mkF m 4 _ [(iv 1)]))
 refine ifY X21 hx (hb Y e27_4) (q := 9) (by decide) (by decide) (by decide) ?_
 refine iL X21 hx (hb Y e27_9) (q := 10) rfl rfl ?_
 refine cI X21 hx (hb Y e27_10) (q := 11) rfl (z := 0) rfl ?_
 refine g_st X21 hx hZ0 hown0 (wd104 hw) (wd105 hw) (wd106 hw) (wd107 hw) (by decide) e21 (Con.back (W := 0) (rm_mx00 l Z a0 hw zC vF G  h0 O0 ) hZ0 (wd107 hw) (wd106 hw) (by decide) (by decide)) (by rw [hml]; rfl) (lenOf pd2 rfl) rfl (Nat.le_of_eq rfl) (hb Y e27_11) (q := 14) rfl (by decide) (by decide) ?_
 intro v22 T22 L22 X22 Q22
 obtain ⟨rfl, Nq22, e22⟩ := Q22
 have N22 := Fr.app N21 Nq22
 show Go _ _ _ _ (T22.setTop (mkF m 14 _ [(iv 0)]))
 refine sI X22 hx (hb Y e27_14) (q := 15) rfl (Ls' := #[vr t, vi ch, vi 0, vi (Int32.ofNat n)]) rfl ?_
 refine iL X22 hx (hb Y e27_15) (q := 16) rfl rfl ?_
 refine aL X22 hx (hb Y e27_16) (q := 17) rfl rfl rfl ?_
 refine g_len X22 hx hZ0 PB e22 (hb Y e27_17) (q := 18) rfl ?_
 refine g_st X22 hx hZ0 hown0 (wd108 hw) (wd109 hw) (wd106 hw) (wd110 hw) (by decide) e22 (Con.back (W := 0) (rm_mnr l Z a0 hw zC vF G (Int32.ofNat n) (Int32.ofNat n) h0 O0 (on_le (show n ≤ n from by omega) (show n < 2147483648 from by omega))) hZ0 (wd110 hw) (wd106 hw) (by decide) (by decide)) (by rw [hml]; rfl) (lenOf pd2 rfl) rfl (Nat.le_of_eq rfl) (hb Y e27_18) (q := 21) rfl (by decide) (by decide) ?_
 intro v23 T23 L23 X23 Q23
 obtain ⟨rfl, Nq23, e23⟩ := Q23
 have N23 := Fr.app N22 Nq23
 show Go _ _ _ _ (T23.setTop (mkF m 21 _ [(.int (Int32.ofNat n))]))
 refine sI X23 hx (hb Y e27_21) (q := 22) rfl (Ls' := #[vr t, vi ch, vi 0, vi (Int32.ofNat n)]) rfl ?_
 refine iL X23 hx (hb Y e27_22) (q := 23) rfl rfl ?_
 refine iL X23 hx (hb Y e27_23) (q := 24) rfl rfl ?_
 rcases Nat.eq_zero_or_pos n with hp | hp
 ·have hq : ¬ (0 : Int32) < Int32.ofNat n := by rw [hp]; exact lt_irr
  show Go _ _ _ _ (T23.setTop (mkF m 24 #[vr t, vi ch, vi 0, vi (Int32.ofNat n)] [(.int (Int32.ofNat n)), (iv 0)]))
  refine icN X23 hx (hb Y e27_24) (q := 27) rfl (flt hq).1 ?_
  refine cI X23 hx (hb Y e27_27) (q := 28) rfl (z := -1) rfl ?_
  refine endP X23 hlk (fun h => by rw [hret] at h; cases h) (lastI X23 hx hret (hb Y e27_28)) ?_ (by decide) (by decide)
  rw [e23]
  exact ⟨(-1 : Int32), rfl, N23, rfl, (Or.inr ⟨rfl, fun k hk => absurd hk (by omega)⟩)⟩
 ·show Go _ _ _ _ (T23.setTop (mkF m 24 #[vr t, vi ch, vi 0, vi (Int32.ofNat n)] [(.int (Int32.ofNat n)), (iv 0)]))
  refine icY X23 hx (hb Y e27_24) (q := 29) (by decide) (by decide) (tlt (on_lt (i := 0) hp (show n < 2147483648 from by omega))).1 ?_
  refine aL X23 hx (hb Y e27_29) (q := 30) rfl rfl rfl ?_
  refine iL X23 hx (hb Y e27_30) (q := 31) rfl rfl ?_
  refine iL X23 hx (hb Y e27_31) (q := 32) rfl rfl ?_
  refine iL X23 hx (hb Y e27_32) (q := 33) rfl rfl ?_
  refine g_st X23 hx hZ0 hown0 (wd207 hw) (wd208 hw) (wd99 hw) (wd209 hw) (by decide) e23 (Con.back (W := 0) (rm_ioc l Z a0 hw zC vF G t kb cs n ch h0 O0 PB Hn Hm Hr Hc Jc) hZ0 (wd209 hw) (wd99 hw) (by decide) (by decide)) (by rw [hml]; rfl) (lenOf pd3 rfl) rfl (Nat.le_of_eq rfl) (hb Y e27_33) (q := 36) rfl (by decide) (by decide) ?_
  intro v24 T24 L24 X24 Q24
  obtain ⟨ix_24, rfl, Nq24, e24, q24_0⟩ := Q24
  have N24 := Fr.app N23 Nq24
  show Go _ _ _ _ (T24.setTop (mkF m 36 _ [(.int ix_24)]))
  refine endP X24 hlk (fun h => by rw [hret] at h; cases h) (lastI X24 hx hret (hb Y e27_36)) ?_ (by decide) (by decide)
  rw [e24]
  exact ⟨ix_24, rfl, N24, rfl, q24_0⟩
theorem e21_0 : Dc kC30 0 (.aload_n 0) 1 := by decide +kernel
theorem e21_1 : Dc kC30 1 (.invokevirtual 492) 3 := by decide +kernel
theorem wd96 (hw : HW a0 Z) : BW a0 Z (.code ⟨sT0, "isLatin1", "()Z"⟩ kC1 (1 : Nat) (Option.some Jvm.ClassFile.FieldType.boolean)) := wat hw 96 rfl
theorem pd4 : parseMethodDescriptor "()Z" = some ⟨[], some .boolean⟩ := by decide +kernel
theorem wd95 (hw : HW a0 Z) : BW a0 Z (.selects sT0 ⟨sT0, "isLatin1", "()Z"⟩ ⟨sT0, "isLatin1", "()Z"⟩) := wat hw 95 rfl
theorem wd92 (hw : HW a0 Z) : BW a0 Z (.methodLink sT0 (492 : Nat) ⟨sT0, "isLatin1", "()Z"⟩) := wat hw 92 rfl
theorem wd93 (hw : HW a0 Z) : BW a0 Z (.declares ⟨sT0, "isLatin1", "()Z"⟩) := wat hw 93 rfl
theorem wd94 (hw : HW a0 Z) : BW a0 Z (.instanceMethod ⟨sT0, "isLatin1", "()Z"⟩) := wat hw 94 rfl
theorem e21_4 : Dc kC30 4 (.ifCond .eq 19) 3 := by decide +kernel
theorem e21_7 : Dc kC30 7 (.aload_n 0) 1 := by decide +kernel
theorem e21_8 : Dc kC30 8 (.getfield 9) 3 := by decide +kernel
theorem e21_11 : Dc kC30 11 (.iload_n 1) 1 := by decide +kernel
theorem e21_12 : Dc kC30 12 (.iload_n 2) 1 := by decide +kernel
theorem e21_13 : Dc kC30 13 (.aload_n 0) 1 := by decide +kernel
theorem e21_14 : Dc kC30 14 (.invokevirtual 505) 3 := by decide +kernel
theorem wd52 (hw : HW a0 Z) : BW a0 Z (.code ⟨sT0, "length", "()I"⟩ kC21 (1 : Nat) (Option.some Jvm.ClassFile.FieldType.int)) := wat hw 52 rfl
theorem pd5 : parseMethodDescriptor "()I" = some ⟨[], some .int⟩ := by decide +kernel
theorem wd51 (hw : HW a0 Z) : BW a0 Z (.selects sT0 ⟨sT0, "length", "()I"⟩ ⟨sT0, "length", "()I"⟩) := wat hw 51 rfl
theorem wd48 (hw : HW a0 Z) : BW a0 Z (.methodLink sT0 (505 : Nat) ⟨sT0, "length", "()I"⟩) := wat hw 48 rfl
theorem wd49 (hw : HW a0 Z) : BW a0 Z (.declares ⟨sT0, "length", "()I"⟩) := wat hw 49 rfl
theorem wd50 (hw : HW a0 Z) : BW a0 Z (.instanceMethod ⟨sT0, "length", "()I"⟩) := wat hw 50 rfl
theorem e21_17 : Dc kC30 17 (.invokestatic 637) 3 := by decide +kernel
theorem wd100 (hw : HW a0 Z) : BW a0 Z (.code ⟨sT5, "indexOf", "([BIII)I"⟩ kC41 (4 : Nat) (Option.some Jvm.ClassFile.FieldType.int)) := wat hw 100 rfl
theorem wd97 (hw : HW a0 Z) : BW a0 Z (.methodLink sT0 (637 : Nat) ⟨sT5, "indexOf", "([BIII)I"⟩) := wat hw 97 rfl
theorem wd98 (hw : HW a0 Z) : BW a0 Z (.static ⟨sT5, "indexOf", "([BIII)I"⟩) := wat hw 98 rfl
theorem e21_20 : Dc kC30 20 (.goto 16) 3 := by decide +kernel
theorem e21_36 : Dc kC30 36 .ireturn 1 := by decide +kernel
def Q_io2 (Z : State) (zC : Int32) (vF : Value) (a1 t : Addr) (kb : ClassId) (cs : List Int32) (n : Nat) (ch : Int32) (h0 : Heap) (v : Option Value) (h : Heap) (L : List Loc) : Prop := ∃ (ix : Int32), v = some (.int ix) ∧ Fr Z.heap.size L ∧ h = h0 ∧ (IXP cs ch ix)
theorem rm_io2 (l : Launch) (Z : State) (a0 : Array Value) (hw : HW a0 Z) (zC : Int32) (vF : Value) (G : GB l a0 Z zC vF) (a1 t : Addr) (kb : ClassId) (cs : List Int32) (n : Nat) (ch : Int32) (h0 : Heap) (O0 : Old Z Z.heap.size h0) (Pe : Exa Z h0 a1 sT0) (Pc : Fld Z h0 a1 sT0 "coder" "B" (iv 0)) (Pv : Fld Z h0 a1 sT0 "value" "[B" (.ref t)) (PB : Arv Z h0 t kb .byte (Int32.ofNat n) (cs.map lo8V) (.int 0)) (Hn : (cs.length = n)) (Hm : (n ≤ 6)) (Hr : (ALL cs)) (Hc : (¬ (ch < (0 : Int32)))) (Jc : (¬ ((255 : Int32) < ch))) :
    Con l Z (⟨sT0, "indexOf", "(II)I"⟩ : MethodName) kC30 3 (some .int) ({ frames := 2, cells := 0, slots := 0, locals := 32 } : Room) #[(.ref a1), (.int ch), (iv 0)] h0 (Q_io2 Z zC vF a1 t kb cs n ch h0) := by
 refine Con.intro (plainFor_of_name pn0) ?_
 intro p e s m below meth c T0 X0 hx Y hml hown0 hnm hret hlk hZ0 e0
 have N0 := Fr.nil Z.heap.size
 refine castGo (g' := mkF m 0 #[vr a1, vi ch, vi 0] []) (by first | rfl | (simp [entryFrame, mkF, argsToLocals, Value.category]; done)) ?_
 show Go _ _ _ _ (T0.setTop (mkF m 0 #[vr a1, vi ch, vi 0] []))
 refine aL X0 hx (hb Y e21_0) (q := 1) rfl rfl rfl ?_
 refine g_vi X0 hx hZ0 hown0 (wd92 hw) (wd93 hw) (notFace_of_selects (args := #[]) (mvT hZ0 (wd95 hw))) (wd95 hw) (wd94 hw) (by decide) Pe e0 (Con.back (W := 0) (rm_isl0 l Z a0 hw zC vF G a1 h0 O0 Pc) hZ0 (wd96 hw) (wd9 hw) (by decide) (by decide)) (by rw [hml]; rfl) (lenOf pd4 rfl) rfl (Nat.le_of_eq rfl) (hb Y e21_1) (q := 4) rfl (by decide) (by decide) ?_
 intro v21 T21 L21 X21 Q21
 obtain ⟨rfl, Nq21, e21⟩ := Q21
 have N21 := Fr.app N0 Nq21
 show Go _ _ _ _ (T21.setTop (mkF m 4 _ [(iv 1)]))
 refine ifN X21 hx (hb Y e21_4) (q := 7) rfl (by decide) ?_
 refine aL X21 hx (hb Y e21_7) (q := 8) rfl rfl rfl ?_
 refine g_getF X21 hx hZ0 hown0 (host := "") (Or.inl (wd53 hw)) Via.refl Pv e21 (hb Y e21_8) (q := 11) rfl ?_
 intro T22 X22 e22
 refine iL X22 hx (hb Y e21_11) (q := 12) rfl rfl ?_
 refine iL X22 hx (hb Y e21_12) (q := 13) rfl rfl ?_
 refine aL X22 hx (hb Y e21_13) (q := 14) rfl rfl rfl ?_
 refine g_vi X22 hx hZ0 hown0 (wd48 hw) (wd49 hw) (notFace_of_selects (args := #[]) (mvT hZ0 (wd51 hw))) (wd51 hw) (wd50 hw) (by decide) Pe e22 (Con.back (W := 3) (rm_slen l Z a0 hw zC vF G a1 t kb (cs.map lo8V) (Int32.ofNat n) h0 O0 Pe Pc Pv PB) hZ0 (wd52 hw) (wd9 hw) (by decide) (by decide)) (by rw [hml]; rfl) (lenOf pd5 rfl) rfl (Nat.le_of_eq rfl) (hb Y e21_14) (q := 17) rfl (by decide) (by decide) ?_
 intro v23 T23 L23 X23 Q23
 obtain ⟨rfl, Nq23, e23⟩ := Q23
 have N23 := Fr.app N21 Nq23
 show Go _ _ _ _ (T23.setTop (mkF m 17 _ [(.int (Int32.ofNat n)), (iv 0), (.int ch), (.ref t)]))
 refine g_st X23 hx hZ0 hown0 (wd97 hw) (wd98 hw) (wd99 hw) (wd100 hw) (by decide) e23 (Con.back (W := 0) (rm_io4 l Z a0 hw zC vF G t kb cs n ch h0 O0 PB Hn Hm Hr Hc Jc) hZ0 (wd100 hw) (wd99 hw) (by decide) (by decide)) (by rw [hml]; rfl) (lenOf pd3 rfl) rfl (Nat.le_of_eq rfl) (hb Y e21_17) (q := 20) rfl (by decide) (by decide) ?_
 intro v24 T24 L24 X24 Q24
 obtain ⟨ix_24, rfl, Nq24, e24, q24_0⟩ := Q24
 have N24 := Fr.app N23 Nq24
 show Go _ _ _ _ (T24.setTop (mkF m 20 _ [(.int ix_24)]))
 refine g_goto X24 hx (hb Y e21_20) (q := 36) (by decide) (by decide) ?_
 refine endP X24 hlk (fun h => by rw [hret] at h; cases h) (lastI X24 hx hret (hb Y e21_36)) ?_ (by decide) (by decide)
 rw [e24]
 exact ⟨ix_24, rfl, N24, rfl, q24_0⟩
theorem e20_0 : Dc kC35 0 (.aload_n 0) 1 := by decide +kernel
theorem e20_1 : Dc kC35 1 (.iload_n 1) 1 := by decide +kernel
theorem e20_2 : Dc kC35 2 (.iconst 0) 1 := by decide +kernel
theorem e20_3 : Dc kC35 3 (.invokevirtual 633) 3 := by decide +kernel
theorem wd91 (hw : HW a0 Z) : BW a0 Z (.code ⟨sT0, "indexOf", "(II)I"⟩ kC30 (3 : Nat) (Option.some Jvm.ClassFile.FieldType.int)) := wat hw 91 rfl
theorem wd90 (hw : HW a0 Z) : BW a0 Z (.selects sT0 ⟨sT0, "indexOf", "(II)I"⟩ ⟨sT0, "indexOf", "(II)I"⟩) := wat hw 90 rfl
theorem wd87 (hw : HW a0 Z) : BW a0 Z (.methodLink sT0 (633 : Nat) ⟨sT0, "indexOf", "(II)I"⟩) := wat hw 87 rfl
theorem wd88 (hw : HW a0 Z) : BW a0 Z (.declares ⟨sT0, "indexOf", "(II)I"⟩) := wat hw 88 rfl
theorem wd89 (hw : HW a0 Z) : BW a0 Z (.instanceMethod ⟨sT0, "indexOf", "(II)I"⟩) := wat hw 89 rfl
theorem e20_6 : Dc kC35 6 .ireturn 1 := by decide +kernel
def Q_io1 (Z : State) (zC : Int32) (vF : Value) (a1 t : Addr) (kb : ClassId) (cs : List Int32) (n : Nat) (ch : Int32) (h0 : Heap) (v : Option Value) (h : Heap) (L : List Loc) : Prop := ∃ (ix : Int32), v = some (.int ix) ∧ Fr Z.heap.size L ∧ h = h0 ∧ (IXP cs ch ix)
theorem rm_io1 (l : Launch) (Z : State) (a0 : Array Value) (hw : HW a0 Z) (zC : Int32) (vF : Value) (G : GB l a0 Z zC vF) (a1 t : Addr) (kb : ClassId) (cs : List Int32) (n : Nat) (ch : Int32) (h0 : Heap) (O0 : Old Z Z.heap.size h0) (Pe : Exa Z h0 a1 sT0) (Pc : Fld Z h0 a1 sT0 "coder" "B" (iv 0)) (Pv : Fld Z h0 a1 sT0 "value" "[B" (.ref t)) (PB : Arv Z h0 t kb .byte (Int32.ofNat n) (cs.map lo8V) (.int 0)) (Hn : (cs.length = n)) (Hm : (n ≤ 6)) (Hr : (ALL cs)) (Hc : (¬ (ch < (0 : Int32)))) (Jc : (¬ ((255 : Int32) < ch))) :
    Con l Z (⟨sT0, "indexOf", "(I)I"⟩ : MethodName) kC35 2 (some .int) ({ frames := 3, cells := 0, slots := 0, locals := 46 } : Room) #[(.ref a1), (.int ch)] h0 (Q_io1 Z zC vF a1 t kb cs n ch h0) := by
 refine Con.intro (plainFor_of_name pn0) ?_
 intro p e s m below meth c T0 X0 hx Y hml hown0 hnm hret hlk hZ0 e0
 have N0 := Fr.nil Z.heap.size
 refine castGo (g' := mkF m 0 #[vr a1, vi ch] []) (by first | rfl | (simp [entryFrame, mkF, argsToLocals, Value.category]; done)) ?_
 show Go _ _ _ _ (T0.setTop (mkF m 0 #[vr a1, vi ch] []))
 refine aL X0 hx (hb Y e20_0) (q := 1) rfl rfl rfl ?_
 refine iL X0 hx (hb Y e20_1) (q := 2) rfl rfl ?_
 refine cI X0 hx (hb Y e20_2) (q := 3) rfl (z := 0) rfl ?_
 refine g_vi X0 hx hZ0 hown0 (wd87 hw) (wd88 hw) (notFace_of_selects (args := #[]) (mvT hZ0 (wd90 hw))) (wd90 hw) (wd89 hw) (by decide) Pe e0 (Con.back (W := 0) (rm_io2 l Z a0 hw zC vF G a1 t kb cs n ch h0 O0 Pe Pc Pv PB Hn Hm Hr Hc Jc) hZ0 (wd91 hw) (wd9 hw) (by decide) (by decide)) (by rw [hml]; rfl) (lenOf pd2 rfl) rfl (Nat.le_of_eq rfl) (hb Y e20_3) (q := 6) rfl (by decide) (by decide) ?_
 intro v21 T21 L21 X21 Q21
 obtain ⟨ix_21, rfl, Nq21, e21, q21_0⟩ := Q21
 have N21 := Fr.app N0 Nq21
 show Go _ _ _ _ (T21.setTop (mkF m 6 _ [(.int ix_21)]))
 refine endP X21 hlk (fun h => by rw [hret] at h; cases h) (lastI X21 hx hret (hb Y e20_6)) ?_ (by decide) (by decide)
 rw [e21]
 exact ⟨ix_21, rfl, N21, rfl, q21_0⟩
theorem e35_0 : Dc kC6 0 (.iload_n 1) 1 := by decide +kernel
theorem e35_1 : Dc kC6 1 (.iload_n 0) 1 := by decide +kernel
theorem e35_2 : Dc kC6 2 (.if_icmp .ge 35) 3 := by decide +kernel
theorem e35_37 : Dc kC6 37 .return_ 1 := by decide +kernel
def Q_ckl (Z : State) (zC : Int32) (vF : Value) (pi pe : Nat) (h0 : Heap) (v : Option Value) (h : Heap) (L : List Loc) : Prop := v = none ∧ Fr Z.heap.size L ∧ h = h0
theorem pn4 : plainName "java/util/Arrays" = true := by first | (simp [plainName, overriddenIn]; done) | decide +kernel
theorem rm_ckl (l : Launch) (Z : State) (a0 : Array Value) (hw : HW a0 Z) (zC : Int32) (vF : Value) (G : GB l a0 Z zC vF) (pi pe : Nat) (h0 : Heap) (O0 : Old Z Z.heap.size h0) (H1 : (pi ≤ pe)) (H2 : (pe ≤ 6)) :
    Con l Z (⟨"java/util/Arrays", "checkLength", "(II)V"⟩ : MethodName) kC6 2 none ({ frames := 0, cells := 0, slots := 0, locals := 0 } : Room) #[(.int (Int32.ofNat pi)), (.int (Int32.ofNat pe))] h0 (Q_ckl Z zC vF pi pe h0) := by
 refine Con.intro (plainFor_of_name pn4) ?_
 intro p e s m below meth c T0 X0 hx Y hml hown0 hnm hret hlk hZ0 e0
 have N0 := Fr.nil Z.heap.size
 refine castGo (g' := mkF m 0 #[vi (Int32.ofNat pi), vi (Int32.ofNat pe)] []) (by first | rfl | (simp [entryFrame, mkF, argsToLocals, Value.category]; done)) ?_
 show Go _ _ _ _ (T0.setTop (mkF m 0 #[vi (Int32.ofNat pi), vi (Int32.ofNat pe)] []))
 refine iL X0 hx (hb Y e35_0) (q := 1) rfl rfl ?_
 refine iL X0 hx (hb Y e35_1) (q := 2) rfl rfl ?_
 refine icY X0 hx (hb Y e35_2) (q := 37) (by decide) (by decide) (flt (on_le (show pi ≤ pe from by omega) (show pe < 2147483648 from by omega))).2.1 ?_
 refine endP X0 hlk (fun _ => rfl) (lastV X0 hx hret (hb Y e35_37)) ?_ (by decide) (by decide)
 rw [e0]
 exact ⟨rfl, N0, rfl⟩
theorem e37_0 : Dc kC0 0 (.iload_n 1) 1 := by decide +kernel
theorem e37_1 : Dc kC0 1 (.iload_n 2) 1 := by decide +kernel
theorem e37_2 : Dc kC0 2 (.invokestatic 343) 3 := by decide +kernel
theorem wd188 (hw : HW a0 Z) : BW a0 Z (.code ⟨"java/util/Arrays", "checkLength", "(II)V"⟩ kC6 (2 : Nat) (Option.none : Option Jvm.ClassFile.FieldType)) := wat hw 188 rfl
theorem wd181 (hw : HW a0 Z) : BW a0 Z (.initialized "java/util/Arrays") := wat hw 181 rfl
theorem pd6 : parseMethodDescriptor "(II)V" = some ⟨[.int, .int], none⟩ := by decide +kernel
theorem wd186 (hw : HW a0 Z) : BW a0 Z (.methodLink "java/util/Arrays" (343 : Nat) ⟨"java/util/Arrays", "checkLength", "(II)V"⟩) := wat hw 186 rfl
theorem wd187 (hw : HW a0 Z) : BW a0 Z (.static ⟨"java/util/Arrays", "checkLength", "(II)V"⟩) := wat hw 187 rfl
theorem e37_5 : Dc kC0 5 (.iload_n 2) 1 := by decide +kernel
theorem e37_6 : Dc kC0 6 (.iload_n 1) 1 := by decide +kernel
theorem e37_7 : Dc kC0 7 .isub 1 := by decide +kernel
theorem e37_8 : Dc kC0 8 (.istore_n 3) 1 := by decide +kernel
theorem e37_9 : Dc kC0 9 (.iload_n 3) 1 := by decide +kernel
theorem e37_10 : Dc kC0 10 (.newarray .byte) 2 := by decide +kernel
theorem wd11 (hw : HW a0 Z) : BW a0 Z (.arrayClass Jvm.ClassFile.FieldType.byte) := wat hw 11 rfl
theorem e37_12 : Dc kC0 12 (.astore 4) 2 := by decide +kernel
theorem e37_14 : Dc kC0 14 (.aload_n 0) 1 := by decide +kernel
theorem e37_15 : Dc kC0 15 (.iload_n 1) 1 := by decide +kernel
theorem e37_16 : Dc kC0 16 (.aload 4) 2 := by decide +kernel
theorem e37_18 : Dc kC0 18 (.iconst 0) 1 := by decide +kernel
theorem e37_19 : Dc kC0 19 (.aload_n 0) 1 := by decide +kernel
theorem e37_20 : Dc kC0 20 .arraylength 1 := by decide +kernel
theorem e37_21 : Dc kC0 21 (.iload_n 1) 1 := by decide +kernel
theorem e37_22 : Dc kC0 22 .isub 1 := by decide +kernel
theorem e37_23 : Dc kC0 23 (.iload_n 3) 1 := by decide +kernel
theorem e37_24 : Dc kC0 24 (.invokestatic 304) 3 := by decide +kernel
theorem wd189 (hw : HW a0 Z) : BW a0 Z (.methodLink "java/util/Arrays" (304 : Nat) ⟨"java/lang/Math", "min", "(II)I"⟩) := wat hw 189 rfl
theorem e37_27 : Dc kC0 27 (.invokestatic 150) 3 := by decide +kernel
theorem wd190 (hw : HW a0 Z) : BW a0 Z (.methodLink "java/util/Arrays" (150 : Nat) ⟨"java/lang/System", "arraycopy", "(Ljava/lang/Object;ILjava/lang/Object;II)V"⟩) := wat hw 190 rfl
theorem wd193 (hw : HW a0 Z) : BW a0 Z (.native ⟨"java/lang/System", "arraycopy", "(Ljava/lang/Object;ILjava/lang/Object;II)V"⟩) := wat hw 193 rfl
theorem wd191 (hw : HW a0 Z) : BW a0 Z (.static ⟨"java/lang/System", "arraycopy", "(Ljava/lang/Object;ILjava/lang/Object;II)V"⟩) := wat hw 191 rfl
theorem wd192 (hw : HW a0 Z) : BW a0 Z (.initialized "java/lang/System") := wat hw 192 rfl
theorem e37_30 : Dc kC0 30 (.aload 4) 2 := by decide +kernel
theorem e37_32 : Dc kC0 32 .areturn 1 := by decide +kernel
def Q_eByte (Z : State) (zC : Int32) (vF : Value) (t : Addr) (kb : ClassId) (us : List Value) (pz pi pe : Nat) (h0 : Heap) (v : Option Value) (h : Heap) (L : List Loc) : Prop := ∃ (ct : Addr), ∃ (kc : ClassId), v = some (.ref ct) ∧ Fr Z.heap.size L ∧ Keep h0 h [] ∧ h0.size ≤ ct ∧ Arv Z h ct kc .byte (Int32.ofNat (pe - pi)) (ins (List.replicate (pe - pi) (.int 0)) (sub us pi (pe - pi) (.int 0)) 0 (pe - pi)) (.int 0) ∧ Exa Z h ct "[B"
theorem rm_eByte (l : Launch) (Z : State) (a0 : Array Value) (hw : HW a0 Z) (zC : Int32) (vF : Value) (G : GB l a0 Z zC vF) (t : Addr) (kb : ClassId) (us : List Value) (pz pi pe : Nat) (h0 : Heap) (O0 : Old Z Z.heap.size h0) (Pa : Arv Z h0 t kb .byte (Int32.ofNat pz) us (.int 0)) (Pl : (us.length = pz)) (Hz : (pz ≤ 6)) (H1 : (pi < pe)) (H2 : (pe ≤ pz)) (H3 : (¬ (pi = 0 ∧ pe = pz))) :
    Con l Z (⟨"java/util/Arrays", "copyOfRangeByte", "([BII)[B"⟩ : MethodName) kC0 5 (some (.array .byte)) ({ frames := 1, cells := 1, slots := 6, locals := 31 } : Room) #[(.ref t), (.int (Int32.ofNat pi)), (.int (Int32.ofNat pe))] h0 (Q_eByte Z zC vF t kb us pz pi pe h0) := by
 refine Con.intro (plainFor_of_name pn4) ?_
 intro p e s m below meth c T0 X0 hx Y hml hown0 hnm hret hlk hZ0 e0
 have N0 := Fr.nil Z.heap.size
 refine castGo (g' := mkF m 0 #[vr t, vi (Int32.ofNat pi), vi (Int32.ofNat pe), uS, uS] []) (by first | rfl | (simp [entryFrame, mkF, argsToLocals, Value.category]; done)) ?_
 show Go _ _ _ _ (T0.setTop (mkF m 0 #[vr t, vi (Int32.ofNat pi), vi (Int32.ofNat pe), uS, uS] []))
 refine iL X0 hx (hb Y e37_0) (q := 1) rfl rfl ?_
 refine iL X0 hx (hb Y e37_1) (q := 2) rfl rfl ?_
 refine g_st X0 hx hZ0 hown0 (wd186 hw) (wd187 hw) (wd181 hw) (wd188 hw) (by decide) e0 (Con.back (W := 0) (rm_ckl l Z a0 hw zC vF G pi pe h0 O0 (show pi ≤ pe from by omega) (show pe ≤ 6 from by omega)) hZ0 (wd188 hw) (wd181 hw) (by decide) (by decide)) (by rw [hml]; rfl) (lenOf pd6 rfl) rfl (Nat.le_of_eq rfl) (hb Y e37_2) (q := 5) rfl (by decide) (by decide) ?_
 intro v21 T21 L21 X21 Q21
 obtain ⟨rfl, Nq21, e21⟩ := Q21
 have N21 := Fr.app N0 Nq21
 show Go _ _ _ _ (T21.setTop (mkF m 5 _ []))
 refine iL X21 hx (hb Y e37_5) (q := 6) rfl rfl ?_
 refine iL X21 hx (hb Y e37_6) (q := 7) rfl rfl ?_
 refine g_isub X21 hx (hb Y e37_7) (q := 8) rfl (z := (Int32.ofNat (pe - pi))) (on_sub (show pi ≤ pe from by omega) (show pe < 2147483648 from by omega)) ?_
 refine sI X21 hx (hb Y e37_8) (q := 9) rfl (Ls' := #[vr t, vi (Int32.ofNat pi), vi (Int32.ofNat pe), vi (Int32.ofNat (pe - pi)), uS]) rfl ?_
 refine iL X21 hx (hb Y e37_9) (q := 10) rfl rfl ?_
 refine g_newE X21 hx hZ0 (aty := .byte) (wd11 hw) (on_nn (show (pe - pi) < 2147483648 from by omega)) (n := (pe - pi)) (on_clamp (show (pe - pi) < 2147483648 from by omega)) (by omega) (by decide) (Nat.le_trans (show 0 + (pe - pi) ≤ 6 from by omega) (by decide)) (ad := "[B") (by decide) e21 (hb Y e37_10) (q := 12) rfl ?_
 intro T22 h22 k22 b22 g22 X22q e22 E22 V22 G22
 have X22 := X22q.more (Nat.le_refl _) (show 0 + (pe - pi) ≤ 6 from by omega)
 show Go _ _ _ _ (T22.setTop (mkF m 12 #[vr t, vi (Int32.ofNat pi), vi (Int32.ofNat pe), vi (Int32.ofNat (pe - pi)), uS] [(.ref b22)]))
 refine sAw X22 hx (hb Y e37_12) (q := 14) rfl rfl (Ls' := #[vr t, vi (Int32.ofNat pi), vi (Int32.ofNat pe), vi (Int32.ofNat (pe - pi)), vr b22]) rfl ?_
 refine aL X22 hx (hb Y e37_14) (q := 15) rfl rfl rfl ?_
 refine iL X22 hx (hb Y e37_15) (q := 16) rfl rfl ?_
 refine aLw X22 hx (hb Y e37_16) (q := 18) rfl rfl rfl ?_
 refine cI X22 hx (hb Y e37_18) (q := 19) rfl (z := 0) rfl ?_
 refine aL X22 hx (hb Y e37_19) (q := 20) rfl rfl rfl ?_
 have f23 := Pa.ext E22
 refine g_len X22 hx hZ0 f23 e22 (hb Y e37_20) (q := 21) rfl ?_
 refine iL X22 hx (hb Y e37_21) (q := 22) rfl rfl ?_
 refine g_isub X22 hx (hb Y e37_22) (q := 23) rfl (z := (Int32.ofNat (pz - pi))) (on_sub (show pi ≤ pz from by omega) (show pz < 2147483648 from by omega)) ?_
 refine iL X22 hx (hb Y e37_23) (q := 24) rfl rfl ?_
 have f25 := O0.ext E22
 refine g_st X22 hx hZ0 hown0 (wd189 hw) (wd109 hw) (wd106 hw) (wd110 hw) (by decide) e22 (Con.back (W := 4) (rm_mnr l Z a0 hw zC vF G (Int32.ofNat (pz - pi)) (Int32.ofNat (pe - pi)) h22 f25 (on_le (show (pe - pi) ≤ (pz - pi) from by omega) (show (pz - pi) < 2147483648 from by omega))) hZ0 (wd110 hw) (wd106 hw) (by decide) (by decide)) (by rw [hml]; rfl) (lenOf pd2 rfl) rfl (Nat.le_of_eq rfl) (hb Y e37_24) (q := 27) rfl (by decide) (by decide) ?_
 intro v24 T24 L24 X24 Q24
 obtain ⟨rfl, Nq24, e24⟩ := Q24
 have N24 := Fr.app N21 Nq24
 show Go _ _ _ _ (T24.setTop (mkF m 27 _ [(.int (Int32.ofNat (pe - pi))), (iv 0), (.ref b22), (.int (Int32.ofNat pi)), (.ref t)]))
 have gz27 : Z.heap.size ≤ b22 := Nat.le_trans O0.2.1 (Nat.le_of_eq g22.symm)
 have ll26 : ((List.replicate (pe - pi) (.int 0)) : List Value).length = (pe - pi) := List.length_replicate
 refine g_cp X24 hx hZ0 hown0 (wd190 hw) (wd193 hw) (wd191 hw) (wd192 hw) (us := (sub us pi (pe - pi) (.int 0))) f23 V22 (Or.inl ⟨rfl, rfl⟩) (on_nn (show pi < 2147483648 from by omega)) (by decide) (on_nn (show (pe - pi) < 2147483648 from by omega)) (cp_le (on_clamp (show pi < 2147483648 from by omega)) (on_clamp (show (pe - pi) < 2147483648 from by omega)) (on_clamp (show pz < 2147483648 from by omega)) (show pi + (pe - pi) ≤ pz from by omega)) (cp_le (by decide : Int32.toNatClampNeg (0 : Int32) = 0) (on_clamp (show (pe - pi) < 2147483648 from by omega)) (on_clamp (show (pe - pi) < 2147483648 from by omega)) (show 0 + (pe - pi) ≤ (pe - pi) from by omega)) (cp_us (on_clamp (show pi < 2147483648 from by omega)) (on_clamp (show (pe - pi) < 2147483648 from by omega))) (cp_len (by decide : Int32.toNatClampNeg (0 : Int32) = 0) (on_clamp (show (pe - pi) < 2147483648 from by omega)) ll26 (show 0 + (pe - pi) ≤ (pe - pi) from by omega)) N24 gz27 (by rw [hml]; rfl) (by decide) (W := 0) (Nat.le_of_eq rfl) (by decide) e24 (hb Y e37_27) (q := 30) rfl ?_
 intro T26 h26 L26 X26 e26 N26 K26q V26
 have Va26 : Arv Z h26 b22 k22 .byte (Int32.ofNat (pe - pi)) (ins (List.replicate (pe - pi) (.int 0)) (sub us pi (pe - pi) (.int 0)) 0 (pe - pi)) (.int 0) := cp_ins (by decide : Int32.toNatClampNeg (0 : Int32) = 0) (on_clamp (show (pe - pi) < 2147483648 from by omega)) V26
 have Ln26 : (ins (List.replicate (pe - pi) (.int 0)) (sub us pi (pe - pi) (.int 0)) 0 (pe - pi)).length = (pe - pi) := (ins_len sub_len (by rw [ll26]; omega)).trans ll26
 refine aLw X26 hx (hb Y e37_30) (q := 32) rfl rfl rfl ?_
 have K28 : Keep h0 h22 [] := (Keep.refl h0 []).ext E22
 have gh29 : h0.size ≤ b22 := Nat.le_trans (Nat.le_refl _) (Nat.le_of_eq g22.symm)
 have K30 : Keep h0 h26 [] := K28.trans K26q (allS (Or.inr gh29) all0)
 have f31 := G22.keep K26q
 refine endP X26 hlk (fun h => by rw [hret] at h; cases h) (lastA X26 hx hret rfl rfl rfl (hb Y e37_32)) ?_ (by decide) (by decide)
 rw [e26]
 exact ⟨b22, k22, rfl, N26, K30, gh29, Va26, f31⟩
theorem e36_0 : Dc kC4 0 (.iload_n 1) 1 := by decide +kernel
theorem e36_1 : Dc kC4 1 (.ifCond .ne 9) 3 := by decide +kernel
theorem e36_4 : Dc kC4 4 (.iload_n 2) 1 := by decide +kernel
theorem e36_5 : Dc kC4 5 (.aload_n 0) 1 := by decide +kernel
theorem e36_6 : Dc kC4 6 .arraylength 1 := by decide +kernel
theorem e36_7 : Dc kC4 7 (.if_icmp .eq 10) 3 := by decide +kernel
theorem e36_10 : Dc kC4 10 (.aload_n 0) 1 := by decide +kernel
theorem e36_11 : Dc kC4 11 (.iload_n 1) 1 := by decide +kernel
theorem e36_12 : Dc kC4 12 (.iload_n 2) 1 := by decide +kernel
theorem e36_13 : Dc kC4 13 (.invokestatic 339) 3 := by decide +kernel
theorem wd185 (hw : HW a0 Z) : BW a0 Z (.code ⟨"java/util/Arrays", "copyOfRangeByte", "([BII)[B"⟩ kC0 (5 : Nat) (Option.some (Jvm.ClassFile.FieldType.array Jvm.ClassFile.FieldType.byte))) := wat hw 185 rfl
theorem pd7 : parseMethodDescriptor "([BII)[B" = some ⟨[(.array .byte), .int, .int], some (.array .byte)⟩ := by decide +kernel
theorem wd183 (hw : HW a0 Z) : BW a0 Z (.methodLink "java/util/Arrays" (339 : Nat) ⟨"java/util/Arrays", "copyOfRangeByte", "([BII)[B"⟩) := wat hw 183 rfl
theorem wd184 (hw : HW a0 Z) : BW a0 Z (.static ⟨"java/util/Arrays", "copyOfRangeByte", "([BII)[B"⟩) := wat hw 184 rfl
theorem e36_16 : Dc kC4 16 .areturn 1 := by decide +kernel
def Q_Range (Z : State) (zC : Int32) (vF : Value) (t : Addr) (kb : ClassId) (us : List Value) (pz pi pe : Nat) (h0 : Heap) (v : Option Value) (h : Heap) (L : List Loc) : Prop := ∃ (ct : Addr), ∃ (kc : ClassId), v = some (.ref ct) ∧ Fr Z.heap.size L ∧ Keep h0 h [] ∧ h0.size ≤ ct ∧ Arv Z h ct kc .byte (Int32.ofNat (pe - pi)) (ins (List.replicate (pe - pi) (.int 0)) (sub us pi (pe - pi) (.int 0)) 0 (pe - pi)) (.int 0) ∧ Exa Z h ct "[B"
theorem rm_Range (l : Launch) (Z : State) (a0 : Array Value) (hw : HW a0 Z) (zC : Int32) (vF : Value) (G : GB l a0 Z zC vF) (t : Addr) (kb : ClassId) (us : List Value) (pz pi pe : Nat) (h0 : Heap) (O0 : Old Z Z.heap.size h0) (Pa : Arv Z h0 t kb .byte (Int32.ofNat pz) us (.int 0)) (Pl : (us.length = pz)) (Hz : (pz ≤ 6)) (H1 : (pi < pe)) (H2 : (pe ≤ pz)) (H3 : (¬ (pi = 0 ∧ pe = pz))) :
    Con l Z (⟨"java/util/Arrays", "copyOfRange", "([BII)[B"⟩ : MethodName) kC4 3 (some (.array .byte)) ({ frames := 2, cells := 1, slots := 6, locals := 47 } : Room) #[(.ref t), (.int (Int32.ofNat pi)), (.int (Int32.ofNat pe))] h0 (Q_Range Z zC vF t kb us pz pi pe h0) := by
 refine Con.intro (plainFor_of_name pn4) ?_
 intro p e s m below meth c T0 X0 hx Y hml hown0 hnm hret hlk hZ0 e0
 have N0 := Fr.nil Z.heap.size
 refine castGo (g' := mkF m 0 #[vr t, vi (Int32.ofNat pi), vi (Int32.ofNat pe)] []) (by first | rfl | (simp [entryFrame, mkF, argsToLocals, Value.category]; done)) ?_
 show Go _ _ _ _ (T0.setTop (mkF m 0 #[vr t, vi (Int32.ofNat pi), vi (Int32.ofNat pe)] []))
 refine iL X0 hx (hb Y e36_0) (q := 1) rfl rfl ?_
 rcases Nat.eq_zero_or_pos pi with hp | hp
 ·have hq : Int32.ofNat pi = 0 := by rw [hp]; rfl
  show Go _ _ _ _ (T0.setTop (mkF m 1 #[vr t, vi (Int32.ofNat pi), vi (Int32.ofNat pe)] [(.int (Int32.ofNat pi))]))
  refine ifN X0 hx (hb Y e36_1) (q := 4) rfl ((if0 _ _).trans (teq hq).2) ?_
  refine iL X0 hx (hb Y e36_4) (q := 5) rfl rfl ?_
  refine aL X0 hx (hb Y e36_5) (q := 6) rfl rfl rfl ?_
  refine g_len X0 hx hZ0 Pa e0 (hb Y e36_6) (q := 7) rfl ?_
  refine icN X0 hx (hb Y e36_7) (q := 10) rfl (feq (on_ne (show pe < pz from by omega) (show pz < 2147483648 from by omega))).1 ?_
  refine aL X0 hx (hb Y e36_10) (q := 11) rfl rfl rfl ?_
  refine iL X0 hx (hb Y e36_11) (q := 12) rfl rfl ?_
  refine iL X0 hx (hb Y e36_12) (q := 13) rfl rfl ?_
  refine g_st X0 hx hZ0 hown0 (wd183 hw) (wd184 hw) (wd181 hw) (wd185 hw) (by decide) e0 (Con.back (W := 0) (rm_eByte l Z a0 hw zC vF G t kb us pz pi pe h0 O0 Pa Pl Hz H1 H2 H3) hZ0 (wd185 hw) (wd181 hw) (by decide) (by decide)) (by rw [hml]; rfl) (lenOf pd7 rfl) rfl (Nat.le_of_eq rfl) (hb Y e36_13) (q := 16) rfl (by decide) (by decide) ?_
  intro v21 T21 L21 X21 Q21
  obtain ⟨ct_21, kc_21, rfl, Nq21, K21q, q21_0, q21_1, q21_2⟩ := Q21
  have N21 := Fr.app N0 Nq21
  show Go _ _ _ _ (T21.setTop (mkF m 16 _ [(.ref ct_21)]))
  have K22 : Keep h0 T21.heap [] := (Keep.refl h0 []).trans K21q all0
  have gh23 : h0.size ≤ ct_21 := Nat.le_trans (Nat.le_refl _) q21_0
  refine endP X21 hlk (fun h => by rw [hret] at h; cases h) (lastA X21 hx hret rfl rfl rfl (hb Y e36_16)) ?_ (by decide) (by decide)
  exact ⟨ct_21, kc_21, rfl, N21, K22, gh23, q21_1, q21_2⟩
 ·have hq : ¬ Int32.ofNat pi = 0 := fun q => on_ne (i := 0) hp (show pi < 2147483648 from by omega) q.symm
  show Go _ _ _ _ (T0.setTop (mkF m 1 #[vr t, vi (Int32.ofNat pi), vi (Int32.ofNat pe)] [(.int (Int32.ofNat pi))]))
  refine ifY X0 hx (hb Y e36_1) (q := 10) (by decide) (by decide) ((if0 _ _).trans (feq hq).2) ?_
  refine aL X0 hx (hb Y e36_10) (q := 11) rfl rfl rfl ?_
  refine iL X0 hx (hb Y e36_11) (q := 12) rfl rfl ?_
  refine iL X0 hx (hb Y e36_12) (q := 13) rfl rfl ?_
  refine g_st X0 hx hZ0 hown0 (wd183 hw) (wd184 hw) (wd181 hw) (wd185 hw) (by decide) e0 (Con.back (W := 0) (rm_eByte l Z a0 hw zC vF G t kb us pz pi pe h0 O0 Pa Pl Hz H1 H2 H3) hZ0 (wd185 hw) (wd181 hw) (by decide) (by decide)) (by rw [hml]; rfl) (lenOf pd7 rfl) rfl (Nat.le_of_eq rfl) (hb Y e36_13) (q := 16) rfl (by decide) (by decide) ?_
  intro v24 T24 L24 X24 Q24
  obtain ⟨ct_24, kc_24, rfl, Nq24, K24q, q24_0, q24_1, q24_2⟩ := Q24
  have N24 := Fr.app N0 Nq24
  show Go _ _ _ _ (T24.setTop (mkF m 16 _ [(.ref ct_24)]))
  have K25 : Keep h0 T24.heap [] := (Keep.refl h0 []).trans K24q all0
  have gh26 : h0.size ≤ ct_24 := Nat.le_trans (Nat.le_refl _) q24_0
  refine endP X24 hlk (fun h => by rw [hret] at h; cases h) (lastA X24 hx hret rfl rfl rfl (hb Y e36_16)) ?_ (by decide) (by decide)
  exact ⟨ct_24, kc_24, rfl, N24, K25, gh26, q24_1, q24_2⟩
theorem e7_0 : Dc kC3 0 (.aload_n 0) 1 := by decide +kernel
theorem e7_1 : Dc kC3 1 (.invokespecial 1) 3 := by decide +kernel
theorem wd146 (hw : HW a0 Z) : BW a0 Z (.methodLink sT0 (1 : Nat) ⟨"java/lang/Object", "<init>", "()V"⟩) := wat hw 146 rfl
theorem wd37 (hw : HW a0 Z) : BW a0 Z (.instanceMethod ⟨"java/lang/Object", "<init>", "()V"⟩) := wat hw 37 rfl
theorem wd38 (hw : HW a0 Z) : BW a0 Z (.code ⟨"java/lang/Object", "<init>", "()V"⟩ kC53 (1 : Nat) (Option.none : Option Jvm.ClassFile.FieldType)) := wat hw 38 rfl
theorem e7_4 : Dc kC3 4 (.aload_n 0) 1 := by decide +kernel
theorem e7_5 : Dc kC3 5 (.aload_n 1) 1 := by decide +kernel
theorem e7_6 : Dc kC3 6 (.putfield 9) 3 := by decide +kernel
theorem wd12 (hw : HW a0 Z) : BW a0 Z (.laysFinal sT0 sT0 "value" "[B") := wat hw 12 rfl
theorem wd10 (hw : HW a0 Z) : BW a0 Z (.instantiable sT0 (4 : Nat)) := wat hw 10 rfl
theorem e7_9 : Dc kC3 9 (.aload_n 0) 1 := by decide +kernel
theorem e7_10 : Dc kC3 10 (.iload_n 2) 1 := by decide +kernel
theorem e7_11 : Dc kC3 11 (.putfield 15) 3 := by decide +kernel
theorem wd13 (hw : HW a0 Z) : BW a0 Z (.laysFinal sT0 sT0 "coder" "B") := wat hw 13 rfl
theorem e7_14 : Dc kC3 14 .return_ 1 := by decide +kernel
def Q_newbb (Z : State) (zC : Int32) (vF : Value) (a1 a2 : Addr) (h0 : Heap) (v : Option Value) (h : Heap) (L : List Loc) : Prop := v = none ∧ Fr Z.heap.size L ∧ Keep h0 h [a1] ∧ Exa Z h a1 sT0 ∧ Fld Z h a1 sT0 "coder" "B" (iv 0) ∧ Fld Z h a1 sT0 "value" "[B" (.ref a2)
theorem rm_newbb (l : Launch) (Z : State) (a0 : Array Value) (hw : HW a0 Z) (zC : Int32) (vF : Value) (G : GB l a0 Z zC vF) (a1 a2 : Addr) (h0 : Heap) (O0 : Old Z Z.heap.size h0) (P1 : Exa Z h0 a1 sT0) (P2 : Fld Z h0 a1 sT0 "value" "[B" .null) (P3 : Fld Z h0 a1 sT0 "coder" "B" (iv 0)) (P4 : Z.heap.size ≤ a1) :
    Con l Z (⟨sT0, "<init>", "([BB)V"⟩ : MethodName) kC3 3 none ({ frames := 1, cells := 0, slots := 0, locals := 12 } : Room) #[(.ref a1), (.ref a2), (iv 0)] h0 (Q_newbb Z zC vF a1 a2 h0) := by
 refine Con.intro (plainFor_of_name pn0) ?_
 intro p e s m below meth c T0 X0 hx Y hml hown0 hnm hret hlk hZ0 e0
 have N0 := Fr.nil Z.heap.size
 refine castGo (g' := mkF m 0 #[vr a1, vr a2, vi 0] []) (by first | rfl | (simp [entryFrame, mkF, argsToLocals, Value.category]; done)) ?_
 show Go _ _ _ _ (T0.setTop (mkF m 0 #[vr a1, vr a2, vi 0] []))
 refine aL X0 hx (hb Y e7_0) (q := 1) rfl rfl rfl ?_
 refine g_init0 X0 hx hZ0 hown0 (wd146 hw) (wd37 hw) (wd38 hw) (by rw [hml]; rfl) (by decide) (W := 0) (Nat.le_of_eq rfl) (by decide) e0 (hb Y e7_1) (q := 4) rfl ?_
 intro T21 X21 e21
 refine aL X21 hx (hb Y e7_4) (q := 5) rfl rfl rfl ?_
 refine aL X21 hx (hb Y e7_5) (q := 6) rfl rfl rfl ?_
 refine g_putF X21 hx hZ0 hown0 (host := "") (Or.inl (wd53 hw)) Via.refl P2 P1 (Or.inr ⟨(wd12 hw), rfl, hnm⟩) (wd10 hw) (ty := (.array .byte)) (by decide) rfl rfl e21 (hb Y e7_6) (q := 9) rfl ?_
 intro T22 h22 X22 e22 W22
 have N22 := Fr.snoc X22 N0 P4
 have Fw22 : Fld Z h22 a1 sT0 "value" "[B" (.ref a2) := P2.same W22
 refine aL X22 hx (hb Y e7_9) (q := 10) rfl rfl rfl ?_
 refine iL X22 hx (hb Y e7_10) (q := 11) rfl rfl ?_
 have f23 := P3.other W22 (Or.inr (slot_ne (Or.inr (wd13 hw)) (Or.inr (wd12 hw)) (by decide) (t := .byte) (t' := (.array .byte)) (by decide) (by decide)))
 have f24 := P1.wr W22
 refine g_putF X22 hx hZ0 hown0 (host := "") (Or.inl (wd60 hw)) Via.refl f23 f24 (Or.inr ⟨(wd13 hw), rfl, hnm⟩) (wd10 hw) (ty := .byte) (by decide) rfl rfl e22 (hb Y e7_11) (q := 14) rfl ?_
 intro T25 h25 X25 e25 W25
 have N25 := Fr.snoc X25 N22 P4
 have Fw25 : Fld Z h25 a1 sT0 "coder" "B" (iv 0) := f23.same W25
 have K26 : Keep h0 h22 [a1] := (Keep.refl h0 [a1]).wr W22 (Or.inl (by simp))
 have K27 : Keep h0 h25 [a1] := K26.wr W25 (Or.inl (by simp))
 have f28 := f24.wr W25
 have f29 := Fw22.other W25 (Or.inr (slot_ne (Or.inr (wd12 hw)) (Or.inr (wd13 hw)) (by decide) (t := (.array .byte)) (t' := .byte) (by decide) (by decide)))
 refine endP X25 hlk (fun _ => rfl) (lastV X25 hx hret (hb Y e7_14)) ?_ (by decide) (by decide)
 rw [e25]
 exact ⟨rfl, N25, K27, f28, Fw25, f29⟩
theorem e33_0 : Dc kC38 0 (.iload_n 2) 1 := by decide +kernel
theorem e33_1 : Dc kC38 1 (.ifCond .ne 6) 3 := by decide +kernel
theorem e33_7 : Dc kC38 7 (.new 1) 3 := by decide +kernel
theorem wd178 (hw : HW a0 Z) : BW a0 Z (.classLink sT5 (1 : Nat) sT0) := wat hw 178 rfl
theorem e33_10 : Dc kC38 10 .dup 1 := by decide +kernel
theorem e33_11 : Dc kC38 11 (.aload_n 0) 1 := by decide +kernel
theorem e33_12 : Dc kC38 12 (.iload_n 1) 1 := by decide +kernel
theorem e33_13 : Dc kC38 13 (.iload_n 1) 1 := by decide +kernel
theorem e33_14 : Dc kC38 14 (.iload_n 2) 1 := by decide +kernel
theorem e33_15 : Dc kC38 15 .iadd 1 := by decide +kernel
theorem e33_16 : Dc kC38 16 (.invokestatic 232) 3 := by decide +kernel
theorem wd182 (hw : HW a0 Z) : BW a0 Z (.code ⟨"java/util/Arrays", "copyOfRange", "([BII)[B"⟩ kC4 (3 : Nat) (Option.some (Jvm.ClassFile.FieldType.array Jvm.ClassFile.FieldType.byte))) := wat hw 182 rfl
theorem wd179 (hw : HW a0 Z) : BW a0 Z (.methodLink sT5 (232 : Nat) ⟨"java/util/Arrays", "copyOfRange", "([BII)[B"⟩) := wat hw 179 rfl
theorem wd180 (hw : HW a0 Z) : BW a0 Z (.static ⟨"java/util/Arrays", "copyOfRange", "([BII)[B"⟩) := wat hw 180 rfl
theorem e33_19 : Dc kC38 19 (.iconst 0) 1 := by decide +kernel
theorem e33_20 : Dc kC38 20 (.invokespecial 112) 3 := by decide +kernel
theorem wd196 (hw : HW a0 Z) : BW a0 Z (.code ⟨sT0, "<init>", "([BB)V"⟩ kC3 (3 : Nat) (Option.none : Option Jvm.ClassFile.FieldType)) := wat hw 196 rfl
theorem pd8 : parseMethodDescriptor "([BB)V" = some ⟨[(.array .byte), .byte], none⟩ := by decide +kernel
theorem wd194 (hw : HW a0 Z) : BW a0 Z (.methodLink sT5 (112 : Nat) ⟨sT0, "<init>", "([BB)V"⟩) := wat hw 194 rfl
theorem wd195 (hw : HW a0 Z) : BW a0 Z (.instanceMethod ⟨sT0, "<init>", "([BB)V"⟩) := wat hw 195 rfl
theorem e33_23 : Dc kC38 23 .areturn 1 := by decide +kernel
def Q_nstr (Z : State) (zC : Int32) (vF : Value) (t : Addr) (kb : ClassId) (us : List Value) (pz pi pm : Nat) (h0 : Heap) (v : Option Value) (h : Heap) (L : List Loc) : Prop := ∃ (r : Addr), ∃ (ct : Addr), ∃ (kc : ClassId), v = some (.ref r) ∧ Fr Z.heap.size L ∧ Keep h0 h [] ∧ h0.size ≤ r ∧ Exa Z h r sT0 ∧ Fld Z h r sT0 "coder" "B" (iv 0) ∧ Fld Z h r sT0 "value" "[B" (.ref ct) ∧ Arv Z h ct kc .byte (Int32.ofNat pm) (sub us pi pm (.int 0)) (.int 0)
theorem rm_nstr (l : Launch) (Z : State) (a0 : Array Value) (hw : HW a0 Z) (zC : Int32) (vF : Value) (G : GB l a0 Z zC vF) (t : Addr) (kb : ClassId) (us : List Value) (pz pi pm : Nat) (h0 : Heap) (O0 : Old Z Z.heap.size h0) (Pa : Arv Z h0 t kb .byte (Int32.ofNat pz) us (.int 0)) (Pl : (us.length = pz)) (Hz : (pz ≤ 6)) (H1 : (pi + pm ≤ pz)) (H2 : (0 < pm)) (H3 : (¬ (pi = 0 ∧ pm = pz))) :
    Con l Z (⟨"java/lang/StringLatin1", "newString", "([BII)Ljava/lang/String;"⟩ : MethodName) kC38 3 (some (.object sT0)) ({ frames := 3, cells := 2, slots := 10, locals := 63 } : Room) #[(.ref t), (.int (Int32.ofNat pi)), (.int (Int32.ofNat pm))] h0 (Q_nstr Z zC vF t kb us pz pi pm h0) := by
 refine Con.intro (plainFor_of_name pn2) ?_
 intro p e s m below meth c T0 X0 hx Y hml hown0 hnm hret hlk hZ0 e0
 have N0 := Fr.nil Z.heap.size
 refine castGo (g' := mkF m 0 #[vr t, vi (Int32.ofNat pi), vi (Int32.ofNat pm)] []) (by first | rfl | (simp [entryFrame, mkF, argsToLocals, Value.category]; done)) ?_
 show Go _ _ _ _ (T0.setTop (mkF m 0 #[vr t, vi (Int32.ofNat pi), vi (Int32.ofNat pm)] []))
 refine iL X0 hx (hb Y e33_0) (q := 1) rfl rfl ?_
 refine ifY X0 hx (hb Y e33_1) (q := 7) (by decide) (by decide) ((if0 _ _).trans (feq (fun q => on_ne (i := 0) (show 0 < pm from by omega) (show pm < 2147483648 from by omega) q.symm)).2) ?_
 refine g_new X0 hx hZ0 hown0 (wd178 hw) (wd10 hw) (wd9 hw) (by decide) (by decide) e0 (hb Y e33_7) (q := 10) rfl ?_
 intro T21 h21 b21 g21 X21 e21 E21 A21 D21
 have F21_12 := D21 (Or.inr (wd12 hw)) (ty := (.array .byte)) (by decide)
 have F21_13 := D21 (Or.inr (wd13 hw)) (ty := .byte) (by decide)
 refine g_dup X21 hx (hb Y e33_10) (q := 11) rfl rfl ?_
 refine aL X21 hx (hb Y e33_11) (q := 12) rfl rfl rfl ?_
 refine iL X21 hx (hb Y e33_12) (q := 13) rfl rfl ?_
 refine iL X21 hx (hb Y e33_13) (q := 14) rfl rfl ?_
 refine iL X21 hx (hb Y e33_14) (q := 15) rfl rfl ?_
 refine g_iadd X21 hx (hb Y e33_15) (q := 16) rfl (z := (Int32.ofNat (pi + pm))) (on_add (pi) pm) ?_
 have f24 := Pa.ext E21
 have f25 := O0.ext E21
 refine g_st X21 hx hZ0 hown0 (wd179 hw) (wd180 hw) (wd181 hw) (wd182 hw) (by decide) e21 (Con.back (W := 2) (rm_Range l Z a0 hw zC vF G t kb us pz pi (pi + pm) h21 f25 f24 Pl Hz (show pi < (pi + pm) from by omega) (show (pi + pm) ≤ pz from by omega) (show ¬ (pi = 0 ∧ (pi + pm) = pz) from by omega)) hZ0 (wd182 hw) (wd181 hw) (by decide) (by decide)) (by rw [hml]; rfl) (lenOf pd7 rfl) rfl (Nat.le_of_eq rfl) (hb Y e33_16) (q := 19) rfl (by decide) (by decide) ?_
 intro v23 T23 L23 X23 Q23
 obtain ⟨ct_23, kc_23, rfl, Nq23, K23q, q23_0, q23_1, q23_2⟩ := Q23
 have N23 := Fr.app N0 Nq23
 show Go _ _ _ _ (T23.setTop (mkF m 19 _ [(.ref ct_23), (.ref b21), (.ref b21)]))
 refine cI X23 hx (hb Y e33_19) (q := 20) rfl (z := 0) rfl ?_
 have f31 := A21.keep K23q
 have f32 := F21_12.keep K23q nin0
 have f33 := F21_13.keep K23q nin0
 have gz34 : Z.heap.size ≤ b21 := Nat.le_trans O0.2.1 (Nat.le_of_eq g21.symm)
 have f35 := f25.keep K23q all0
 refine g_sp X23 hx hZ0 hown0 (wd194 hw) (wd195 hw) (wd196 hw) rfl (by decide) rfl (Con.back (W := 1) (rm_newbb l Z a0 hw zC vF G b21 ct_23 T23.heap f35 f31 f32 f33 gz34) hZ0 (wd196 hw) (wd9 hw) (by decide) (by decide)) (by rw [hml]; rfl) (lenOf pd8 rfl) rfl (Nat.le_of_eq rfl) (hb Y e33_20) (q := 23) rfl (by decide) (by decide) ?_
 intro v30 T30 L30 X30 Q30
 obtain ⟨rfl, Nq30, K30q, q30_0, q30_1, q30_2⟩ := Q30
 have N30 := Fr.app N23 Nq30
 show Go _ _ _ _ (T30.setTop (mkF m 23 _ [(.ref b21)]))
 have K36 : Keep h0 h21 [] := (Keep.refl h0 []).ext E21
 have K37 : Keep h0 T23.heap [] := K36.trans K23q all0
 have gh38 : h0.size ≤ b21 := Nat.le_trans (Nat.le_refl _) (Nat.le_of_eq g21.symm)
 have K39 : Keep h0 T30.heap [] := K37.trans K30q (allS (Or.inr gh38) all0)
 have ne40 : ct_23 ≠ b21 := (Nat.ne_of_gt (Nat.lt_of_lt_of_le (Nat.lt_of_lt_of_le A21.lt (Nat.le_refl _)) q23_0))
 have f41 := q23_1.keep K30q (ninS ne40 nin0)
 refine endP X30 hlk (fun h => by rw [hret] at h; cases h) (lastA X30 hx hret rfl rfl rfl (hb Y e33_23)) ?_ (by decide) (by decide)
 exact ⟨b21, ct_23, kc_23, rfl, N30, K39, gh38, q30_0, q30_1, q30_2, (by have q := f41; rw [show pi + pm - pi = pm by omega, ins_all sub_len] at q; exact q)⟩
theorem e33_4 : Dc kC38 4 (.ldc 151) 2 := by decide +kernel
theorem e33_6 : Dc kC38 6 .areturn 1 := by decide +kernel
def Q_nstr0 (Z : State) (zC : Int32) (vF : Value) (t : Addr) (pi : Int32) (h0 : Heap) (v : Option Value) (h : Heap) (L : List Loc) : Prop := ∃ (r : Addr), ∃ (ct : Addr), ∃ (kc : ClassId), v = some (.ref r) ∧ Fr Z.heap.size L ∧ Keep h0 h [] ∧ Exa Z h r sT0 ∧ Fld Z h r sT0 "coder" "B" (iv 0) ∧ Fld Z h r sT0 "value" "[B" (.ref ct) ∧ Arv Z h ct kc .byte (0 : Int32) [] (.int 0)
theorem rm_nstr0 (l : Launch) (Z : State) (a0 : Array Value) (hw : HW a0 Z) (zC : Int32) (vF : Value) (G : GB l a0 Z zC vF) (t : Addr) (pi : Int32) (h0 : Heap) (O0 : Old Z Z.heap.size h0)  :
    ConS l Z EL (⟨"java/lang/StringLatin1", "newString", "([BII)Ljava/lang/String;"⟩ : MethodName) kC38 3 (some (.object sT0)) ({ frames := 0, cells := 2, slots := 4, locals := 0 } : Room) #[(.ref t), (.int pi), (iv 0)] h0 [] (Q_nstr0 Z zC vF t pi h0) := by
 refine ConS.intro (plainFor_of_name pn2) ?_
 intro p e s m below meth c T0 v0 X0 hx Y hml hown0 hnm hret hlk hZ0 e0 hS0 C0 hsl0
 have N0 := Fr.nil Z.heap.size
 refine castGo (g' := mkF m 0 #[vr t, vi pi, vi 0] []) (by first | rfl | (simp [entryFrame, mkF, argsToLocals, Value.category]; done)) ?_
 show Go _ _ _ _ (T0.setTop (mkF m 0 #[vr t, vi pi, vi 0] []))
 refine iL X0 hx (hb Y e33_0) (q := 1) rfl rfl ?_
 refine ifN X0 hx (hb Y e33_1) (q := 4) rfl (by decide) ?_
 refine g_ldc X0 hx hZ0 hown0 (wd306 hw) (own_wS hw) hS0 (Nat.zero_le _) (own_EW hw) (by simp [EL]) C0.1 (vs := []) (z := 0) ⟨by decide, by decide⟩ (by decide) (by decide) (n := 0) (by decide) (by decide) (by decide) (by decide) e0 (hb Y e33_4) (q := 6) rfl ?_
 intro b21 T21 h21 kk21 d21 k21 X21 e21 E21 hS21 hk21 hZ21 hown21 A21 Fc21 Fv21 V21 lta21 ltb21 R21 sn21
 have K22 : Keep h0 h21 [] := (Keep.refl h0 []).ext E21
 have f23 := C0.trans R21
 refine endC X21 hlk hS21 (by rw [e21]; exact (Nat.le_trans hk21 (Nat.le_refl _))) hZ21 (own_EW hw) (by rw [e21]; exact f23) (fun h => by rw [hret] at h; cases h) (lastA X21 hx hret rfl rfl rfl (hb Y e33_6)) ?_ (by decide) (by decide)
 rw [e21]
 exact ⟨b21, d21, k21, rfl, N0, K22, A21, Fc21, Fv21, V21⟩
theorem e4_0 : Dc kC39 0 (.iload_n 0) 1 := by decide +kernel
theorem e4_1 : Dc kC39 1 (.ifCond .lt 13) 3 := by decide +kernel
theorem e4_4 : Dc kC39 4 (.iload_n 0) 1 := by decide +kernel
theorem e4_5 : Dc kC39 5 (.iload_n 1) 1 := by decide +kernel
theorem e4_6 : Dc kC39 6 (.if_icmp .gt 8) 3 := by decide +kernel
theorem e4_9 : Dc kC39 9 (.iload_n 1) 1 := by decide +kernel
theorem e4_10 : Dc kC39 10 (.iload_n 2) 1 := by decide +kernel
theorem e4_11 : Dc kC39 11 (.if_icmp .le 11) 3 := by decide +kernel
theorem e4_22 : Dc kC39 22 (.iload_n 0) 1 := by decide +kernel
theorem e4_23 : Dc kC39 23 .ireturn 1 := by decide +kernel
def Q_cftn (Z : State) (zC : Int32) (vF : Value) (pe n : Nat) (h0 : Heap) (v : Option Value) (h : Heap) (L : List Loc) : Prop := v = some (iv 0) ∧ Fr Z.heap.size L ∧ h = h0
theorem pn5 : plainName "jdk/internal/util/Preconditions" = true := by first | (simp [plainName, overriddenIn]; done) | decide +kernel
theorem rm_cftn (l : Launch) (Z : State) (a0 : Array Value) (hw : HW a0 Z) (zC : Int32) (vF : Value) (G : GB l a0 Z zC vF) (pe n : Nat) (h0 : Heap) (O0 : Old Z Z.heap.size h0) (He : (pe ≤ n)) (Hq : (n ≤ 6)) :
    Con l Z (⟨"jdk/internal/util/Preconditions", "checkFromToIndex", "(IIILjava/util/function/BiFunction;)I"⟩ : MethodName) kC39 4 (some .int) ({ frames := 0, cells := 0, slots := 0, locals := 0 } : Room) #[(iv 0), (.int (Int32.ofNat pe)), (.int (Int32.ofNat n)), .null] h0 (Q_cftn Z zC vF pe n h0) := by
 refine Con.intro (plainFor_of_name pn5) ?_
 intro p e s m below meth c T0 X0 hx Y hml hown0 hnm hret hlk hZ0 e0
 have N0 := Fr.nil Z.heap.size
 refine castGo (g' := mkF m 0 #[vi 0, vi (Int32.ofNat pe), vi (Int32.ofNat n), .val .null] []) (by first | rfl | (simp [entryFrame, mkF, argsToLocals, Value.category]; done)) ?_
 show Go _ _ _ _ (T0.setTop (mkF m 0 #[vi 0, vi (Int32.ofNat pe), vi (Int32.ofNat n), .val .null] []))
 refine iL X0 hx (hb Y e4_0) (q := 1) rfl rfl ?_
 refine ifN X0 hx (hb Y e4_1) (q := 4) rfl (by decide) ?_
 refine iL X0 hx (hb Y e4_4) (q := 5) rfl rfl ?_
 refine iL X0 hx (hb Y e4_5) (q := 6) rfl rfl ?_
 refine icN X0 hx (hb Y e4_6) (q := 9) rfl (flt (on_nn (show pe < 2147483648 from by omega))).2.2.1 ?_
 refine iL X0 hx (hb Y e4_9) (q := 10) rfl rfl ?_
 refine iL X0 hx (hb Y e4_10) (q := 11) rfl rfl ?_
 refine icY X0 hx (hb Y e4_11) (q := 22) (by decide) (by decide) (flt (on_le (show pe ≤ n from by omega) (show n < 2147483648 from by omega))).2.2.2 ?_
 refine iL X0 hx (hb Y e4_22) (q := 23) rfl rfl ?_
 refine endP X0 hlk (fun h => by rw [hret] at h; cases h) (lastI X0 hx hret (hb Y e4_23)) ?_ (by decide) (by decide)
 rw [e0]
 exact ⟨rfl, N0, rfl⟩
def Q_cftr (Z : State) (zC : Int32) (vF : Value) (pe n : Nat) (a1 : Addr) (h0 : Heap) (v : Option Value) (h : Heap) (L : List Loc) : Prop := v = some (iv 0) ∧ Fr Z.heap.size L ∧ h = h0
theorem rm_cftr (l : Launch) (Z : State) (a0 : Array Value) (hw : HW a0 Z) (zC : Int32) (vF : Value) (G : GB l a0 Z zC vF) (pe n : Nat) (a1 : Addr) (h0 : Heap) (O0 : Old Z Z.heap.size h0) (He : (pe ≤ n)) (Hq : (n ≤ 6)) :
    Con l Z (⟨"jdk/internal/util/Preconditions", "checkFromToIndex", "(IIILjava/util/function/BiFunction;)I"⟩ : MethodName) kC39 4 (some .int) ({ frames := 0, cells := 0, slots := 0, locals := 0 } : Room) #[(iv 0), (.int (Int32.ofNat pe)), (.int (Int32.ofNat n)), (.ref a1)] h0 (Q_cftr Z zC vF pe n a1 h0) := by
 refine Con.intro (plainFor_of_name pn5) ?_
 intro p e s m below meth c T0 X0 hx Y hml hown0 hnm hret hlk hZ0 e0
 have N0 := Fr.nil Z.heap.size
 refine castGo (g' := mkF m 0 #[vi 0, vi (Int32.ofNat pe), vi (Int32.ofNat n), vr a1] []) (by first | rfl | (simp [entryFrame, mkF, argsToLocals, Value.category]; done)) ?_
 show Go _ _ _ _ (T0.setTop (mkF m 0 #[vi 0, vi (Int32.ofNat pe), vi (Int32.ofNat n), vr a1] []))
 refine iL X0 hx (hb Y e4_0) (q := 1) rfl rfl ?_
 refine ifN X0 hx (hb Y e4_1) (q := 4) rfl (by decide) ?_
 refine iL X0 hx (hb Y e4_4) (q := 5) rfl rfl ?_
 refine iL X0 hx (hb Y e4_5) (q := 6) rfl rfl ?_
 refine icN X0 hx (hb Y e4_6) (q := 9) rfl (flt (on_nn (show pe < 2147483648 from by omega))).2.2.1 ?_
 refine iL X0 hx (hb Y e4_9) (q := 10) rfl rfl ?_
 refine iL X0 hx (hb Y e4_10) (q := 11) rfl rfl ?_
 refine icY X0 hx (hb Y e4_11) (q := 22) (by decide) (by decide) (flt (on_le (show pe ≤ n from by omega) (show n < 2147483648 from by omega))).2.2.2 ?_
 refine iL X0 hx (hb Y e4_22) (q := 23) rfl rfl ?_
 refine endP X0 hlk (fun h => by rw [hret] at h; cases h) (lastI X0 hx hret (hb Y e4_23)) ?_ (by decide) (by decide)
 rw [e0]
 exact ⟨rfl, N0, rfl⟩
theorem e11_0 : Dc kC7 0 (.iload_n 0) 1 := by decide +kernel
theorem e11_1 : Dc kC7 1 (.iload_n 1) 1 := by decide +kernel
theorem e11_2 : Dc kC7 2 (.iload_n 2) 1 := by decide +kernel
theorem e11_3 : Dc kC7 3 (.getstatic 1053) 3 := by decide +kernel
theorem wd170 (hw : HW a0 Z) : BW a0 Z (.fieldLink sT0 (1053 : Nat) sT8 "SIOOBE_FORMATTER" "Ljava/util/function/BiFunction;") := wat hw 170 rfl
theorem e11_6 : Dc kC7 6 (.invokestatic 1062) 3 := by decide +kernel
theorem wd174 (hw : HW a0 Z) : BW a0 Z (.code ⟨sT8, "checkFromToIndex", "(IIILjava/util/function/BiFunction;)I"⟩ kC39 (4 : Nat) (Option.some Jvm.ClassFile.FieldType.int)) := wat hw 174 rfl
theorem wd171 (hw : HW a0 Z) : BW a0 Z (.initialized sT8) := wat hw 171 rfl
theorem pd9 : parseMethodDescriptor "(IIILjava/util/function/BiFunction;)I" = some ⟨[.int, .int, .int, (.object "java/util/function/BiFunction")], some .int⟩ := by decide +kernel
theorem wd172 (hw : HW a0 Z) : BW a0 Z (.methodLink sT0 (1062 : Nat) ⟨sT8, "checkFromToIndex", "(IIILjava/util/function/BiFunction;)I"⟩) := wat hw 172 rfl
theorem wd173 (hw : HW a0 Z) : BW a0 Z (.static ⟨sT8, "checkFromToIndex", "(IIILjava/util/function/BiFunction;)I"⟩) := wat hw 173 rfl
theorem e11_9 : Dc kC7 9 .pop 1 := by decide +kernel
theorem e11_10 : Dc kC7 10 .return_ 1 := by decide +kernel
def Q_cbb (Z : State) (zC : Int32) (vF : Value) (pe n : Nat) (h0 : Heap) (v : Option Value) (h : Heap) (L : List Loc) : Prop := v = none ∧ Fr Z.heap.size L ∧ h = h0
theorem rm_cbb (l : Launch) (Z : State) (a0 : Array Value) (hw : HW a0 Z) (zC : Int32) (vF : Value) (G : GB l a0 Z zC vF) (pe n : Nat) (h0 : Heap) (O0 : Old Z Z.heap.size h0) (He : (pe ≤ n)) (Hq : (n ≤ 6)) :
    Con l Z (⟨sT0, "checkBoundsBeginEnd", "(III)V"⟩ : MethodName) kC7 3 none ({ frames := 1, cells := 0, slots := 0, locals := 15 } : Room) #[(iv 0), (.int (Int32.ofNat pe)), (.int (Int32.ofNat n))] h0 (Q_cbb Z zC vF pe n h0) := by
 obtain ⟨SC, PC, rF, SF⟩ := id G
 refine Con.intro (plainFor_of_name pn0) ?_
 intro p e s m below meth c T0 X0 hx Y hml hown0 hnm hret hlk hZ0 e0
 have N0 := Fr.nil Z.heap.size
 refine castGo (g' := mkF m 0 #[vi 0, vi (Int32.ofNat pe), vi (Int32.ofNat n)] []) (by first | rfl | (simp [entryFrame, mkF, argsToLocals, Value.category]; done)) ?_
 show Go _ _ _ _ (T0.setTop (mkF m 0 #[vi 0, vi (Int32.ofNat pe), vi (Int32.ofNat n)] []))
 rcases id rF with hF | ⟨aF, hF⟩
 ·have SF1 : Sta Z Z.heap "jdk/internal/util/Preconditions" "SIOOBE_FORMATTER" "Ljava/util/function/BiFunction;" .null := by rw [← hF]; exact SF
  show Go _ _ _ _ (T0.setTop (mkF m 0 #[vi 0, vi (Int32.ofNat pe), vi (Int32.ofNat n)] []))
  refine iL X0 hx (hb Y e11_0) (q := 1) rfl rfl ?_
  refine iL X0 hx (hb Y e11_1) (q := 2) rfl rfl ?_
  refine iL X0 hx (hb Y e11_2) (q := 3) rfl rfl ?_
  refine g_getS X0 hx hZ0 hown0 (host := "") (Or.inl (wd170 hw)) Via.refl (SF1.ext O0.2) e0 (hb Y e11_3) (q := 6) rfl ?_
  intro T21 X21 e21
  refine g_st X21 hx hZ0 hown0 (wd172 hw) (wd173 hw) (wd171 hw) (wd174 hw) (by decide) e21 (Con.back (W := 0) (rm_cftn l Z a0 hw zC vF G pe n h0 O0 He Hq) hZ0 (wd174 hw) (wd171 hw) (by decide) (by decide)) (by rw [hml]; rfl) (lenOf pd9 rfl) rfl (Nat.le_of_eq rfl) (hb Y e11_6) (q := 9) rfl (by decide) (by decide) ?_
  intro v22 T22 L22 X22 Q22
  obtain ⟨rfl, Nq22, e22⟩ := Q22
  have N22 := Fr.app N0 Nq22
  show Go _ _ _ _ (T22.setTop (mkF m 9 _ [(iv 0)]))
  refine g_pop X22 hx (hb Y e11_9) (q := 10) rfl rfl ?_
  refine endP X22 hlk (fun _ => rfl) (lastV X22 hx hret (hb Y e11_10)) ?_ (by decide) (by decide)
  rw [e22]
  exact ⟨rfl, N22, rfl⟩
 ·have SF1 : Sta Z Z.heap "jdk/internal/util/Preconditions" "SIOOBE_FORMATTER" "Ljava/util/function/BiFunction;" (.ref aF) := by rw [← hF]; exact SF
  show Go _ _ _ _ (T0.setTop (mkF m 0 #[vi 0, vi (Int32.ofNat pe), vi (Int32.ofNat n)] []))
  refine iL X0 hx (hb Y e11_0) (q := 1) rfl rfl ?_
  refine iL X0 hx (hb Y e11_1) (q := 2) rfl rfl ?_
  refine iL X0 hx (hb Y e11_2) (q := 3) rfl rfl ?_
  refine g_getS X0 hx hZ0 hown0 (host := "") (Or.inl (wd170 hw)) Via.refl (SF1.ext O0.2) e0 (hb Y e11_3) (q := 6) rfl ?_
  intro T23 X23 e23
  refine g_st X23 hx hZ0 hown0 (wd172 hw) (wd173 hw) (wd171 hw) (wd174 hw) (by decide) e23 (Con.back (W := 0) (rm_cftr l Z a0 hw zC vF G pe n aF h0 O0 He Hq) hZ0 (wd174 hw) (wd171 hw) (by decide) (by decide)) (by rw [hml]; rfl) (lenOf pd9 rfl) rfl (Nat.le_of_eq rfl) (hb Y e11_6) (q := 9) rfl (by decide) (by decide) ?_
  intro v24 T24 L24 X24 Q24
  obtain ⟨rfl, Nq24, e24⟩ := Q24
  have N24 := Fr.app N0 Nq24
  show Go _ _ _ _ (T24.setTop (mkF m 9 _ [(iv 0)]))
  refine g_pop X24 hx (hb Y e11_9) (q := 10) rfl rfl ?_
  refine endP X24 hlk (fun _ => rfl) (lastV X24 hx hret (hb Y e11_10)) ?_ (by decide) (by decide)
  rw [e24]
  exact ⟨rfl, N24, rfl⟩
theorem e23_0 : Dc kC15 0 (.aload_n 0) 1 := by decide +kernel
theorem e23_1 : Dc kC15 1 (.invokevirtual 505) 3 := by decide +kernel
theorem e23_4 : Dc kC15 4 (.istore_n 3) 1 := by decide +kernel
theorem e23_5 : Dc kC15 5 (.iload_n 1) 1 := by decide +kernel
theorem e23_6 : Dc kC15 6 (.iload_n 2) 1 := by decide +kernel
theorem e23_7 : Dc kC15 7 (.iload_n 3) 1 := by decide +kernel
theorem e23_8 : Dc kC15 8 (.invokestatic 521) 3 := by decide +kernel
theorem wd169 (hw : HW a0 Z) : BW a0 Z (.code ⟨sT0, "checkBoundsBeginEnd", "(III)V"⟩ kC7 (3 : Nat) (Option.none : Option Jvm.ClassFile.FieldType)) := wat hw 169 rfl
theorem pd10 : parseMethodDescriptor "(III)V" = some ⟨[.int, .int, .int], none⟩ := by decide +kernel
theorem wd167 (hw : HW a0 Z) : BW a0 Z (.methodLink sT0 (521 : Nat) ⟨sT0, "checkBoundsBeginEnd", "(III)V"⟩) := wat hw 167 rfl
theorem wd168 (hw : HW a0 Z) : BW a0 Z (.static ⟨sT0, "checkBoundsBeginEnd", "(III)V"⟩) := wat hw 168 rfl
theorem e23_11 : Dc kC15 11 (.iload_n 1) 1 := by decide +kernel
theorem e23_12 : Dc kC15 12 (.ifCond .ne 10) 3 := by decide +kernel
theorem e23_15 : Dc kC15 15 (.iload_n 2) 1 := by decide +kernel
theorem e23_16 : Dc kC15 16 (.iload_n 3) 1 := by decide +kernel
theorem e23_17 : Dc kC15 17 (.if_icmp .ne 5) 3 := by decide +kernel
theorem e23_20 : Dc kC15 20 (.aload_n 0) 1 := by decide +kernel
theorem e23_21 : Dc kC15 21 .areturn 1 := by decide +kernel
theorem e23_22 : Dc kC15 22 (.iload_n 2) 1 := by decide +kernel
theorem e23_23 : Dc kC15 23 (.iload_n 1) 1 := by decide +kernel
theorem e23_24 : Dc kC15 24 .isub 1 := by decide +kernel
theorem e23_25 : Dc kC15 25 (.istore 4) 2 := by decide +kernel
theorem e23_27 : Dc kC15 27 (.aload_n 0) 1 := by decide +kernel
theorem e23_28 : Dc kC15 28 (.invokevirtual 492) 3 := by decide +kernel
theorem e23_31 : Dc kC15 31 (.ifCond .eq 16) 3 := by decide +kernel
theorem e23_34 : Dc kC15 34 (.aload_n 0) 1 := by decide +kernel
theorem e23_35 : Dc kC15 35 (.getfield 9) 3 := by decide +kernel
theorem e23_38 : Dc kC15 38 (.iload_n 1) 1 := by decide +kernel
theorem e23_39 : Dc kC15 39 (.iload 4) 2 := by decide +kernel
theorem e23_41 : Dc kC15 41 (.invokestatic 685) 3 := by decide +kernel
theorem wd177 (hw : HW a0 Z) : BW a0 Z (.code ⟨sT5, "newString", "([BII)Ljava/lang/String;"⟩ kC38 (3 : Nat) (Option.some (Jvm.ClassFile.FieldType.object sT0))) := wat hw 177 rfl
theorem pd11 : parseMethodDescriptor "([BII)Ljava/lang/String;" = some ⟨[(.array .byte), .int, .int], some (.object "java/lang/String")⟩ := by decide +kernel
theorem wd175 (hw : HW a0 Z) : BW a0 Z (.methodLink sT0 (685 : Nat) ⟨sT5, "newString", "([BII)Ljava/lang/String;"⟩) := wat hw 175 rfl
theorem wd176 (hw : HW a0 Z) : BW a0 Z (.static ⟨sT5, "newString", "([BII)Ljava/lang/String;"⟩) := wat hw 176 rfl
theorem e23_44 : Dc kC15 44 (.goto 13) 3 := by decide +kernel
theorem e23_57 : Dc kC15 57 .areturn 1 := by decide +kernel
def Q_subs (Z : State) (zC : Int32) (vF : Value) (a1 t : Addr) (kb : ClassId) (cs : List Int32) (n pe : Nat) (h0 : Heap) (v : Option Value) (h : Heap) (L : List Loc) : Prop := ∃ (r : Addr), ∃ (ct : Addr), ∃ (kc : ClassId), v = some (.ref r) ∧ Fr Z.heap.size L ∧ Keep h0 h [] ∧ Exa Z h r sT0 ∧ Fld Z h r sT0 "coder" "B" (iv 0) ∧ Fld Z h r sT0 "value" "[B" (.ref ct) ∧ Arv Z h ct kc .byte (Int32.ofNat pe) ((List.take pe cs).map lo8V) (.int 0)
theorem rm_subs (l : Launch) (Z : State) (a0 : Array Value) (hw : HW a0 Z) (zC : Int32) (vF : Value) (G : GB l a0 Z zC vF) (a1 t : Addr) (kb : ClassId) (cs : List Int32) (n pe : Nat) (h0 : Heap) (O0 : Old Z Z.heap.size h0) (Pe : Exa Z h0 a1 sT0) (Pc : Fld Z h0 a1 sT0 "coder" "B" (iv 0)) (Pv : Fld Z h0 a1 sT0 "value" "[B" (.ref t)) (PB : Arv Z h0 t kb .byte (Int32.ofNat n) (cs.map lo8V) (.int 0)) (Hn : (cs.length = n)) (Hm : (n ≤ 6)) (Hr : (ALL cs)) (He : (pe ≤ n)) :
    ConS l Z EL (⟨sT0, "substring", "(II)Ljava/lang/String;"⟩ : MethodName) kC15 5 (some (.object sT0)) ({ frames := 4, cells := 2, slots := 10, locals := 77 } : Room) #[(.ref a1), (iv 0), (.int (Int32.ofNat pe))] h0 [] (Q_subs Z zC vF a1 t kb cs n pe h0) := by
 refine ConS.intro (plainFor_of_name pn0) ?_
 intro p e s m below meth c T0 v0 X0 hx Y hml hown0 hnm hret hlk hZ0 e0 hS0 C0 hsl0
 have N0 := Fr.nil Z.heap.size
 refine castGo (g' := mkF m 0 #[vr a1, vi 0, vi (Int32.ofNat pe), uS, uS] []) (by first | rfl | (simp [entryFrame, mkF, argsToLocals, Value.category]; done)) ?_
 show Go _ _ _ _ (T0.setTop (mkF m 0 #[vr a1, vi 0, vi (Int32.ofNat pe), uS, uS] []))
 refine aL X0 hx (hb Y e23_0) (q := 1) rfl rfl rfl ?_
 refine g_vi X0 hx hZ0 hown0 (wd48 hw) (wd49 hw) (notFace_of_selects (args := #[]) (mvT hZ0 (wd51 hw))) (wd51 hw) (wd50 hw) (by decide) Pe e0 (Con.back (W := 0) (rm_slen l Z a0 hw zC vF G a1 t kb (cs.map lo8V) (Int32.ofNat n) h0 O0 Pe Pc Pv PB) hZ0 (wd52 hw) (wd9 hw) (by decide) (by decide)) (by rw [hml]; rfl) (lenOf pd5 rfl) rfl (Nat.le_of_eq rfl) (hb Y e23_1) (q := 4) rfl (by decide) (by decide) ?_
 intro v21 T21 L21 X21 Q21
 obtain ⟨rfl, Nq21, e21⟩ := Q21
 have N21 := Fr.app N0 Nq21
 show Go _ _ _ _ (T21.setTop (mkF m 4 _ [(.int (Int32.ofNat n))]))
 refine sI X21 hx (hb Y e23_4) (q := 5) rfl (Ls' := #[vr a1, vi 0, vi (Int32.ofNat pe), vi (Int32.ofNat n), uS]) rfl ?_
 refine iL X21 hx (hb Y e23_5) (q := 6) rfl rfl ?_
 refine iL X21 hx (hb Y e23_6) (q := 7) rfl rfl ?_
 refine iL X21 hx (hb Y e23_7) (q := 8) rfl rfl ?_
 refine g_st X21 hx hZ0 hown0 (wd167 hw) (wd168 hw) (wd9 hw) (wd169 hw) (by decide) e21 (Con.back (W := 0) (rm_cbb l Z a0 hw zC vF G pe n h0 O0 He Hm) hZ0 (wd169 hw) (wd9 hw) (by decide) (by decide)) (by rw [hml]; rfl) (lenOf pd10 rfl) rfl (Nat.le_of_eq rfl) (hb Y e23_8) (q := 11) rfl (by decide) (by decide) ?_
 intro v22 T22 L22 X22 Q22
 obtain ⟨rfl, Nq22, e22⟩ := Q22
 have N22 := Fr.app N21 Nq22
 show Go _ _ _ _ (T22.setTop (mkF m 11 _ []))
 refine iL X22 hx (hb Y e23_11) (q := 12) rfl rfl ?_
 refine ifN X22 hx (hb Y e23_12) (q := 15) rfl (by decide) ?_
 rcases Nat.eq_or_lt_of_le He with hp | hp
 ·have hq : Int32.ofNat pe = Int32.ofNat n := by rw [hp]
  show Go _ _ _ _ (T22.setTop (mkF m 15 #[vr a1, vi 0, vi (Int32.ofNat pe), vi (Int32.ofNat n), uS] []))
  refine iL X22 hx (hb Y e23_15) (q := 16) rfl rfl ?_
  refine iL X22 hx (hb Y e23_16) (q := 17) rfl rfl ?_
  refine icN X22 hx (hb Y e23_17) (q := 20) rfl (teq hq).2 ?_
  refine aL X22 hx (hb Y e23_20) (q := 21) rfl rfl rfl ?_
  refine endC X22 hlk hS0 (by rw [e22]; exact (Nat.zero_le _)) hZ0 (own_EW hw) (by rw [e22]; exact C0) (fun h => by rw [hret] at h; cases h) (lastA X22 hx hret rfl rfl rfl (hb Y e23_21)) ?_ (by decide) (by decide)
  rw [e22]
  exact ⟨a1, t, kb, rfl, N22, (Keep.refl h0 []), Pe, Pc, Pv, (by rw [hp, List.take_of_length_le (Nat.le_of_eq Hn)]; exact PB)⟩
 ·show Go _ _ _ _ (T22.setTop (mkF m 15 #[vr a1, vi 0, vi (Int32.ofNat pe), vi (Int32.ofNat n), uS] []))
  refine iL X22 hx (hb Y e23_15) (q := 16) rfl rfl ?_
  refine iL X22 hx (hb Y e23_16) (q := 17) rfl rfl ?_
  refine icY X22 hx (hb Y e23_17) (q := 22) (by decide) (by decide) (feq (on_ne hp (show n < 2147483648 from by omega))).2 ?_
  refine iL X22 hx (hb Y e23_22) (q := 23) rfl rfl ?_
  refine iL X22 hx (hb Y e23_23) (q := 24) rfl rfl ?_
  refine g_isub X22 hx (hb Y e23_24) (q := 25) rfl (z := (Int32.ofNat pe)) (sub_zero32 _) ?_
  refine sIw X22 hx (hb Y e23_25) (q := 27) rfl (Ls' := #[vr a1, vi 0, vi (Int32.ofNat pe), vi (Int32.ofNat n), vi (Int32.ofNat pe)]) rfl ?_
  refine aL X22 hx (hb Y e23_27) (q := 28) rfl rfl rfl ?_
  refine g_vi X22 hx hZ0 hown0 (wd92 hw) (wd93 hw) (notFace_of_selects (args := #[]) (mvT hZ0 (wd95 hw))) (wd95 hw) (wd94 hw) (by decide) Pe e22 (Con.back (W := 0) (rm_isl0 l Z a0 hw zC vF G a1 h0 O0 Pc) hZ0 (wd96 hw) (wd9 hw) (by decide) (by decide)) (by rw [hml]; rfl) (lenOf pd4 rfl) rfl (Nat.le_of_eq rfl) (hb Y e23_28) (q := 31) rfl (by decide) (by decide) ?_
  intro v23 T23 L23 X23 Q23
  obtain ⟨rfl, Nq23, e23⟩ := Q23
  have N23 := Fr.app N22 Nq23
  show Go _ _ _ _ (T23.setTop (mkF m 31 _ [(iv 1)]))
  refine ifN X23 hx (hb Y e23_31) (q := 34) rfl (by decide) ?_
  refine aL X23 hx (hb Y e23_34) (q := 35) rfl rfl rfl ?_
  refine g_getF X23 hx hZ0 hown0 (host := "") (Or.inl (wd53 hw)) Via.refl Pv e23 (hb Y e23_35) (q := 38) rfl ?_
  intro T24 X24 e24
  refine iL X24 hx (hb Y e23_38) (q := 39) rfl rfl ?_
  refine iLw X24 hx (hb Y e23_39) (q := 41) rfl rfl ?_
  rcases Nat.eq_zero_or_pos pe with hp0 | hp0
  ·refine castGo (g' := mkF m 41 #[vr a1, vi 0, vi (Int32.ofNat pe), vi (Int32.ofNat n), vi (Int32.ofNat pe)] [(iv 0), (iv 0), (.ref t)]) (by rw [(show (0 : Int32) = (Int32.ofNat pe) from by rw [hp0]; rfl)]) ?_
   show Go _ _ _ _ (T24.setTop (mkF m 41 #[vr a1, vi 0, vi (Int32.ofNat pe), vi (Int32.ofNat n), vi (Int32.ofNat pe)] [(iv 0), (iv 0), (.ref t)]))
   refine g_stS X24 hx hZ0 hown0 hS0 (Nat.zero_le _) (wd175 hw) (wd176 hw) (wd99 hw) (wd177 hw) (by decide) e24 (ConS.back (W := 0) (rm_nstr0 l Z a0 hw zC vF G t (0 : Int32) h0 O0 ) hZ0 (wd177 hw) (wd99 hw) (by decide) (by decide) (own_EW hw) C0.1 sf0 all0) (by rw [hml]; rfl) (lenOf pd11 rfl) rfl (Nat.le_of_eq rfl) (hb Y e23_41) (q := 44) rfl (by decide) (by decide) ?_
   rintro v25 T25 L25 ⟨X25, hS25, hZ25, hown25, R25⟩ Q25
   obtain ⟨r_25, ct_25, kc_25, rfl, Nq25, K25q, q25_0, q25_1, q25_2, q25_3⟩ := Q25
   have N25 := Fr.app N23 Nq25
   show Go _ _ _ _ (T25.setTop (mkF m 44 _ [(.ref r_25)]))
   refine g_goto X25 hx (hb Y e23_44) (q := 57) (by decide) (by decide) ?_
   have K26 : Keep h0 T25.heap [] := (Keep.refl h0 []).trans K25q all0
   have f27 := C0.trans R25
   refine endC X25 hlk hS25 (Nat.le_trans (Nat.le_refl _) (Nat.le_refl _)) hZ25 (own_EW hw) f27 (fun h => by rw [hret] at h; cases h) (lastA X25 hx hret rfl rfl rfl (hb Y e23_57)) ?_ (by decide) (by decide)
   exact ⟨r_25, ct_25, kc_25, rfl, N25, K26, q25_0, q25_1, q25_2, (by rw [hp0]; exact q25_3)⟩
  ·show Go _ _ _ _ (T24.setTop (mkF m 41 #[vr a1, vi 0, vi (Int32.ofNat pe), vi (Int32.ofNat n), vi (Int32.ofNat pe)] [(.int (Int32.ofNat pe)), (iv 0), (.ref t)]))
   refine g_st X24 hx hZ0 hown0 (wd175 hw) (wd176 hw) (wd99 hw) (wd177 hw) (by decide) e24 (Con.back (W := 0) (rm_nstr l Z a0 hw zC vF G t kb (cs.map lo8V) n 0 pe h0 O0 PB (by rw [List.length_map]; exact Hn) Hm (show 0 + pe ≤ n from by omega) (show 0 < pe from by omega) (show ¬ (0 = 0 ∧ pe = n) from by omega)) hZ0 (wd177 hw) (wd99 hw) (by decide) (by decide)) (by rw [hml]; rfl) (lenOf pd11 rfl) rfl (Nat.le_of_eq rfl) (hb Y e23_41) (q := 44) rfl (by decide) (by decide) ?_
   intro v28 T28 L28 X28 Q28
   obtain ⟨r_28, ct_28, kc_28, rfl, Nq28, K28q, q28_0, q28_1, q28_2, q28_3, q28_4⟩ := Q28
   have N28 := Fr.app N23 Nq28
   show Go _ _ _ _ (T28.setTop (mkF m 44 _ [(.ref r_28)]))
   refine g_goto X28 hx (hb Y e23_44) (q := 57) (by decide) (by decide) ?_
   have K29 : Keep h0 T28.heap [] := (Keep.refl h0 []).trans K28q all0
   have f30 := C0.trans (CHr.keep K28q sf0 C0.1)
   refine endC X28 hlk hS0 (Nat.zero_le _) hZ0 (own_EW hw) f30 (fun h => by rw [hret] at h; cases h) (lastA X28 hx hret rfl rfl rfl (hb Y e23_57)) ?_ (by decide) (by decide)
   exact ⟨r_28, ct_28, kc_28, rfl, N28, K29, q28_1, q28_2, q28_3, (by have q := q28_4; rw [tk_sub Hn (by omega)] at q; exact q)⟩
theorem e34_0 : Dc kC34 0 (.iconst 0) 1 := by decide +kernel
theorem e34_1 : Dc kC34 1 (.istore 5) 2 := by decide +kernel
theorem e34_3 : Dc kC34 3 (.iload 4) 2 := by decide +kernel
theorem e34_5 : Dc kC34 5 (.bipush 7) 2 := by decide +kernel
theorem e34_7 : Dc kC34 7 (.if_icmp .le 63) 3 := by decide +kernel
theorem e34_70 : Dc kC34 70 (.iload 5) 2 := by decide +kernel
theorem e34_72 : Dc kC34 72 (.iload 4) 2 := by decide +kernel
theorem e34_74 : Dc kC34 74 (.if_icmp .ge 27) 3 := by decide +kernel
theorem e34_101 : Dc kC34 101 (.iconst (-1)) 1 := by decide +kernel
theorem e34_102 : Dc kC34 102 .ireturn 1 := by decide +kernel
theorem e34_77 : Dc kC34 77 (.aload_n 0) 1 := by decide +kernel
theorem e34_78 : Dc kC34 78 (.iload_n 1) 1 := by decide +kernel
theorem e34_79 : Dc kC34 79 (.iload 5) 2 := by decide +kernel
theorem e34_81 : Dc kC34 81 .iadd 1 := by decide +kernel
theorem e34_82 : Dc kC34 82 .baload 1 := by decide +kernel
theorem e34_83 : Dc kC34 83 (.aload_n 2) 1 := by decide +kernel
theorem e34_84 : Dc kC34 84 (.iload_n 3) 1 := by decide +kernel
theorem e34_85 : Dc kC34 85 (.iload 5) 2 := by decide +kernel
theorem e34_87 : Dc kC34 87 .iadd 1 := by decide +kernel
theorem e34_88 : Dc kC34 88 .baload 1 := by decide +kernel
theorem e34_89 : Dc kC34 89 (.if_icmp .eq 6) 3 := by decide +kernel
theorem e34_95 : Dc kC34 95 (.iinc 5 1) 3 := by decide +kernel
theorem e34_98 : Dc kC34 98 (.goto (-28)) 3 := by decide +kernel
theorem e34_92 : Dc kC34 92 (.iload 5) 2 := by decide +kernel
theorem e34_94 : Dc kC34 94 .ireturn 1 := by decide +kernel
def Q_mm (Z : State) (zC : Int32) (vF : Value) (t1 : Addr) (k1 : ClassId) (cs : List Int32) (n : Nat) (t2 : Addr) (k2 : ClassId) (ds : List Int32) (m2 o1 : Nat) (o2 pm : Nat) (h0 : Heap) (v : Option Value) (h : Heap) (L : List Loc) : Prop := ∃ (ix : Int32), v = some (.int ix) ∧ Fr Z.heap.size L ∧ h = h0 ∧ (MMP cs o1 ds o2 pm ix)
theorem pn6 : plainName "jdk/internal/util/ArraysSupport" = true := by first | (simp [plainName, overriddenIn]; done) | decide +kernel
theorem rm_mm (l : Launch) (Z : State) (a0 : Array Value) (hw : HW a0 Z) (zC : Int32) (vF : Value) (G : GB l a0 Z zC vF) (t1 : Addr) (k1 : ClassId) (cs : List Int32) (n : Nat) (t2 : Addr) (k2 : ClassId) (ds : List Int32) (m2 o1 : Nat) (o2 pm : Nat) (h0 : Heap) (O0 : Old Z Z.heap.size h0) (PB1 : Arv Z h0 t1 k1 .byte (Int32.ofNat n) (cs.map lo8V) (.int 0)) (Hn1 : (cs.length = n)) (Hm1 : (n ≤ 6)) (Hr1 : (ALL cs)) (PB2 : Arv Z h0 t2 k2 .byte (Int32.ofNat m2) (ds.map lo8V) (.int 0)) (Hn2 : (ds.length = m2)) (Hm2 : (m2 ≤ 6)) (Hr2 : (ALL ds)) (G1 : (o1 + pm ≤ n)) (G2 : (o2 + pm ≤ m2)) :
    Con l Z (⟨"jdk/internal/util/ArraysSupport", "mismatch", "([BI[BII)I"⟩ : MethodName) kC34 8 (some .int) ({ frames := 0, cells := 0, slots := 0, locals := 0 } : Room) #[(.ref t1), (.int (Int32.ofNat o1)), (.ref t2), (.int (Int32.ofNat o2)), (.int (Int32.ofNat pm))] h0 (Q_mm Z zC vF t1 k1 cs n t2 k2 ds m2 o1 o2 pm h0) := by
 refine Con.intro (plainFor_of_name pn6) ?_
 intro p e s m below meth c T0 X0 hx Y hml hown0 hnm hret hlk hZ0 e0
 have N0 := Fr.nil Z.heap.size
 refine castGo (g' := mkF m 0 #[vr t1, vi (Int32.ofNat o1), vr t2, vi (Int32.ofNat o2), vi (Int32.ofNat pm), uS, uS, uS] []) (by first | rfl | (simp [entryFrame, mkF, argsToLocals, Value.category]; done)) ?_
 show Go _ _ _ _ (T0.setTop (mkF m 0 #[vr t1, vi (Int32.ofNat o1), vr t2, vi (Int32.ofNat o2), vi (Int32.ofNat pm), uS, uS, uS] []))
 refine cI X0 hx (hb Y e34_0) (q := 1) rfl (z := 0) rfl ?_
 refine sIw X0 hx (hb Y e34_1) (q := 3) rfl (Ls' := #[vr t1, vi (Int32.ofNat o1), vr t2, vi (Int32.ofNat o2), vi (Int32.ofNat pm), vi 0, uS, uS]) rfl ?_
 refine iLw X0 hx (hb Y e34_3) (q := 5) rfl rfl ?_
 refine bI X0 hx (hb Y e34_5) (q := 7) rfl (z := 7) rfl ?_
 refine icY X0 hx (hb Y e34_7) (q := 70) (by decide) (by decide) (flt (on_le (b := 7) (show pm ≤ 7 from by omega) (by decide))).2.2.2 ?_
 have lp21 : ∀ (k21 i21 : Nat) (T21 : State) (L21 : List Loc), i21 + k21 = pm → Stand p l e ({ frames := 0, cells := 0, slots := 0, locals := 0 } : Room) s m #[(.ref t1), (.int (Int32.ofNat o1)), (.ref t2), (.int (Int32.ofNat o2)), (.int (Int32.ofNat pm))] below meth c T21 L21 0 0 → T21.heap = h0 → Fr Z.heap.size L21 → (∀ j, j < i21 → cs.getD (o1 + j) 0 = ds.getD (o2 + j) 0) → Go p.tables e below (PEnd s (Q_mm Z zC vF t1 k1 cs n t2 k2 ds m2 o1 o2 pm h0) ({ frames := 0, cells := 0, slots := 0, locals := 0 } : Room).cells ({ frames := 0, cells := 0, slots := 0, locals := 0 } : Room).slots) (T21.setTop (mkF m 70 #[vr t1, vi (Int32.ofNat o1), vr t2, vi (Int32.ofNat o2), vi (Int32.ofNat pm), vi (Int32.ofNat i21), uS, uS] [])) := by
  intro k21
  induction k21 with
  | zero =>
   intro i21 T21 L21  hk21 X21 e21 N21 q1
   have hi21 : i21 = pm := by omega
   have nb21 : i21 < 2147483648 := by omega
   have hz21 : ¬ (Int32.ofNat i21 < Int32.ofNat pm) := by rw [hi21]; exact lt_irr
   show Go _ _ _ _ (T21.setTop (mkF m 70 #[vr t1, vi (Int32.ofNat o1), vr t2, vi (Int32.ofNat o2), vi (Int32.ofNat pm), vi (Int32.ofNat i21), uS, uS] []))
   refine iLw X21 hx (hb Y e34_70) (q := 72) rfl rfl ?_
   refine iLw X21 hx (hb Y e34_72) (q := 74) rfl rfl ?_
   refine icY X21 hx (hb Y e34_74) (q := 101) (by decide) (by decide) (flt hz21).2.1 ?_
   refine cI X21 hx (hb Y e34_101) (q := 102) rfl (z := -1) rfl ?_
   refine endP X21 hlk (fun h => by rw [hret] at h; cases h) (lastI X21 hx hret (hb Y e34_102)) ?_ (by decide) (by decide)
   rw [e21]
   exact ⟨(-1 : Int32), rfl, N21, rfl, (Or.inl ⟨fun j hj => q1 j (by omega), rfl⟩)⟩
  | succ k21 ih =>
   intro i21 T21 L21  hk21 X21 e21 N21 q1
   have hi21 : i21 < pm := by omega
   have nb21 : i21 < 2147483648 := by omega
   obtain ⟨ya21, hya21⟩ : ∃ y, y = cs.getD (o1 + i21) 0 := ⟨_, rfl⟩
   have ga21 : (cs.map lo8V).getD (o1 + i21) (.int 0) = .int (StrChars.lo8 ya21) := by rw [hya21]; exact map_getD Hn1 (show o1 + i21 < n from by omega)
   have ra21 := rng_of Hr1 Hn1 (show o1 + i21 < n from by omega) hya21
   obtain ⟨yb21, hyb21⟩ : ∃ y, y = ds.getD (o2 + i21) 0 := ⟨_, rfl⟩
   have gb21 : (ds.map lo8V).getD (o2 + i21) (.int 0) = .int (StrChars.lo8 yb21) := by rw [hyb21]; exact map_getD Hn2 (show o2 + i21 < m2 from by omega)
   have rb21 := rng_of Hr2 Hn2 (show o2 + i21 < m2 from by omega) hyb21
   show Go _ _ _ _ (T21.setTop (mkF m 70 #[vr t1, vi (Int32.ofNat o1), vr t2, vi (Int32.ofNat o2), vi (Int32.ofNat pm), vi (Int32.ofNat i21), uS, uS] []))
   refine iLw X21 hx (hb Y e34_70) (q := 72) rfl rfl ?_
   refine iLw X21 hx (hb Y e34_72) (q := 74) rfl rfl ?_
   refine icN X21 hx (hb Y e34_74) (q := 77) rfl (tlt (on_lt hi21 (show pm < 2147483648 from by omega))).2.1 ?_
   refine aL X21 hx (hb Y e34_77) (q := 78) rfl rfl rfl ?_
   refine iL X21 hx (hb Y e34_78) (q := 79) rfl rfl ?_
   refine iLw X21 hx (hb Y e34_79) (q := 81) rfl rfl ?_
   refine g_iadd X21 hx (hb Y e34_81) (q := 82) rfl (z := (Int32.ofNat (o1 + i21))) (on_add (o1) i21) ?_
   refine g_ldB X21 hx hZ0 PB1 (i := (o1 + i21)) (on_clamp (show (o1 + i21) < 2147483648 from by omega)) (on_nn (show (o1 + i21) < 2147483648 from by omega)) (on_lt (show (o1 + i21) < n from by omega) (show n < 2147483648 from by omega)) (v := (.int (StrChars.lo8 ya21))) ga21 e21 (hb Y e34_82) (q := 83) rfl ?_
   refine aL X21 hx (hb Y e34_83) (q := 84) rfl rfl rfl ?_
   refine iL X21 hx (hb Y e34_84) (q := 85) rfl rfl ?_
   refine iLw X21 hx (hb Y e34_85) (q := 87) rfl rfl ?_
   refine g_iadd X21 hx (hb Y e34_87) (q := 88) rfl (z := (Int32.ofNat (o2 + i21))) (on_add (o2) i21) ?_
   refine g_ldB X21 hx hZ0 PB2 (i := (o2 + i21)) (on_clamp (show (o2 + i21) < 2147483648 from by omega)) (on_nn (show (o2 + i21) < 2147483648 from by omega)) (on_lt (show (o2 + i21) < m2 from by omega) (show m2 < 2147483648 from by omega)) (v := (.int (StrChars.lo8 yb21))) gb21 e21 (hb Y e34_88) (q := 89) rfl ?_
   by_cases hc22 : (StrChars.lo8 ya21) = (StrChars.lo8 yb21)
   ·refine icY X21 hx (hb Y e34_89) (q := 95) (by decide) (by decide) (teq hc22).1 ?_
    refine g_iinc X21 hx (hb Y e34_95) (q := 98) rfl rfl (z := (Int32.ofNat (i21 + 1))) (on_add (i21) 1) (Ls' := #[vr t1, vi (Int32.ofNat o1), vr t2, vi (Int32.ofNat o2), vi (Int32.ofNat pm), vi (Int32.ofNat (i21 + 1)), uS, uS]) rfl ?_
    refine g_goto X21 hx (hb Y e34_98) (q := 70) (by decide) (by decide) ?_
    exact ih (i21 + 1) _ _  (by omega) X21 e21  N21 (all_step (P := fun j => cs.getD (o1 + j) 0 = ds.getD (o2 + j) 0) q1 (by rw [← hya21, ← hyb21]; exact lo8_inj ra21.1 ra21.2 rb21.1 rb21.2 hc22))
   ·refine icN X21 hx (hb Y e34_89) (q := 92) rfl (feq hc22).1 ?_
    refine iLw X21 hx (hb Y e34_92) (q := 94) rfl rfl ?_
    refine endP X21 hlk (fun h => by rw [hret] at h; cases h) (lastI X21 hx hret (hb Y e34_94)) ?_ (by decide) (by decide)
    rw [e21]
    exact ⟨(Int32.ofNat i21), rfl, N21, rfl, (Or.inr ⟨fun z => hc22 (by rw [hya21, hyb21, z i21 hi21]), on_nn nb21⟩)⟩
 exact lp21 (pm - 0) 0 _ _  (by omega) X0 e0  N0 (fun _ q => absurd q (Nat.not_lt_zero _))
theorem e17_0 : Dc kC27 0 (.iload_n 2) 1 := by decide +kernel
theorem e17_1 : Dc kC27 1 (.ifCond .lt 16) 3 := by decide +kernel
theorem e17_4 : Dc kC27 4 (.iload_n 2) 1 := by decide +kernel
theorem e17_5 : Dc kC27 5 (.aload_n 0) 1 := by decide +kernel
theorem e17_6 : Dc kC27 6 (.invokevirtual 505) 3 := by decide +kernel
theorem e17_9 : Dc kC27 9 (.aload_n 1) 1 := by decide +kernel
theorem e17_10 : Dc kC27 10 (.invokevirtual 505) 3 := by decide +kernel
theorem e17_13 : Dc kC27 13 .isub 1 := by decide +kernel
theorem e17_14 : Dc kC27 14 (.if_icmp .le 5) 3 := by decide +kernel
theorem e17_19 : Dc kC27 19 (.aload_n 0) 1 := by decide +kernel
theorem e17_20 : Dc kC27 20 (.getfield 9) 3 := by decide +kernel
theorem e17_23 : Dc kC27 23 (.astore_n 3) 1 := by decide +kernel
theorem e17_24 : Dc kC27 24 (.aload_n 1) 1 := by decide +kernel
theorem e17_25 : Dc kC27 25 (.getfield 9) 3 := by decide +kernel
theorem e17_28 : Dc kC27 28 (.astore 4) 2 := by decide +kernel
theorem e17_30 : Dc kC27 30 (.iconst 0) 1 := by decide +kernel
theorem e17_31 : Dc kC27 31 (.istore 5) 2 := by decide +kernel
theorem e17_33 : Dc kC27 33 (.aload 4) 2 := by decide +kernel
theorem e17_35 : Dc kC27 35 .arraylength 1 := by decide +kernel
theorem e17_36 : Dc kC27 36 (.istore 6) 2 := by decide +kernel
theorem e17_38 : Dc kC27 38 (.aload_n 0) 1 := by decide +kernel
theorem e17_39 : Dc kC27 39 (.invokevirtual 335) 3 := by decide +kernel
theorem e17_42 : Dc kC27 42 (.istore 7) 2 := by decide +kernel
theorem e17_44 : Dc kC27 44 (.iload 7) 2 := by decide +kernel
theorem e17_46 : Dc kC27 46 (.aload_n 1) 1 := by decide +kernel
theorem e17_47 : Dc kC27 47 (.invokevirtual 335) 3 := by decide +kernel
theorem e17_50 : Dc kC27 50 (.if_icmp .ne 32) 3 := by decide +kernel
theorem e17_53 : Dc kC27 53 (.iload 7) 2 := by decide +kernel
theorem e17_55 : Dc kC27 55 (.iconst 1) 1 := by decide +kernel
theorem e17_56 : Dc kC27 56 (.if_icmp .ne 7) 3 := by decide +kernel
theorem e17_63 : Dc kC27 63 (.aload_n 3) 1 := by decide +kernel
theorem e17_64 : Dc kC27 64 (.iload_n 2) 1 := by decide +kernel
theorem e17_65 : Dc kC27 65 (.aload 4) 2 := by decide +kernel
theorem e17_67 : Dc kC27 67 (.iconst 0) 1 := by decide +kernel
theorem e17_68 : Dc kC27 68 (.iload 6) 2 := by decide +kernel
theorem e17_70 : Dc kC27 70 (.invokestatic 607) 3 := by decide +kernel
theorem wd160 (hw : HW a0 Z) : BW a0 Z (.code ⟨"jdk/internal/util/ArraysSupport", "mismatch", "([BI[BII)I"⟩ kC34 (8 : Nat) (Option.some Jvm.ClassFile.FieldType.int)) := wat hw 160 rfl
theorem wd159 (hw : HW a0 Z) : BW a0 Z (.initialized "jdk/internal/util/ArraysSupport") := wat hw 159 rfl
theorem pd12 : parseMethodDescriptor "([BI[BII)I" = some ⟨[(.array .byte), .int, (.array .byte), .int, .int], some .int⟩ := by decide +kernel
theorem wd157 (hw : HW a0 Z) : BW a0 Z (.methodLink sT0 (607 : Nat) ⟨"jdk/internal/util/ArraysSupport", "mismatch", "([BI[BII)I"⟩) := wat hw 157 rfl
theorem wd158 (hw : HW a0 Z) : BW a0 Z (.static ⟨"jdk/internal/util/ArraysSupport", "mismatch", "([BI[BII)I"⟩) := wat hw 158 rfl
theorem e17_73 : Dc kC27 73 (.ifCond .ge 7) 3 := by decide +kernel
theorem e17_76 : Dc kC27 76 (.iconst 1) 1 := by decide +kernel
theorem e17_77 : Dc kC27 77 (.goto 4) 3 := by decide +kernel
theorem e17_81 : Dc kC27 81 .ireturn 1 := by decide +kernel
theorem e17_80 : Dc kC27 80 (.iconst 0) 1 := by decide +kernel
def Q_sw (Z : State) (zC : Int32) (vF : Value) (a1 t1 : Addr) (k1 : ClassId) (cs : List Int32) (n : Nat) (a2 t2 : Addr) (k2 : ClassId) (ds : List Int32) (m2 po : Nat) (h0 : Heap) (v : Option Value) (h : Heap) (L : List Loc) : Prop := ∃ (bb : Int32), v = some (.int bb) ∧ Fr Z.heap.size L ∧ h = h0 ∧ (BIT bb (EQS cs po ds 0 m2))
theorem rm_sw (l : Launch) (Z : State) (a0 : Array Value) (hw : HW a0 Z) (zC : Int32) (vF : Value) (G : GB l a0 Z zC vF) (a1 t1 : Addr) (k1 : ClassId) (cs : List Int32) (n : Nat) (a2 t2 : Addr) (k2 : ClassId) (ds : List Int32) (m2 po : Nat) (h0 : Heap) (O0 : Old Z Z.heap.size h0) (Pe1 : Exa Z h0 a1 sT0) (Pc1 : Fld Z h0 a1 sT0 "coder" "B" (iv 0)) (Pv1 : Fld Z h0 a1 sT0 "value" "[B" (.ref t1)) (PB1 : Arv Z h0 t1 k1 .byte (Int32.ofNat n) (cs.map lo8V) (.int 0)) (Hn1 : (cs.length = n)) (Hm1 : (n ≤ 6)) (Hr1 : (ALL cs)) (Pe2 : Exa Z h0 a2 sT0) (Pc2 : Fld Z h0 a2 sT0 "coder" "B" (iv 0)) (Pv2 : Fld Z h0 a2 sT0 "value" "[B" (.ref t2)) (PB2 : Arv Z h0 t2 k2 .byte (Int32.ofNat m2) (ds.map lo8V) (.int 0)) (Hn2 : (ds.length = m2)) (Hm2 : (m2 ≤ 6)) (Hr2 : (ALL ds)) (G1 : (po + m2 ≤ n)) :
    Con l Z (⟨sT0, "startsWith", "(Ljava/lang/String;I)Z"⟩ : MethodName) kC27 8 (some .boolean) ({ frames := 2, cells := 0, slots := 0, locals := 27 } : Room) #[(.ref a1), (.ref a2), (.int (Int32.ofNat po))] h0 (Q_sw Z zC vF a1 t1 k1 cs n a2 t2 k2 ds m2 po h0) := by
 refine Con.intro (plainFor_of_name pn0) ?_
 intro p e s m below meth c T0 X0 hx Y hml hown0 hnm hret hlk hZ0 e0
 have N0 := Fr.nil Z.heap.size
 refine castGo (g' := mkF m 0 #[vr a1, vr a2, vi (Int32.ofNat po), uS, uS, uS, uS, uS] []) (by first | rfl | (simp [entryFrame, mkF, argsToLocals, Value.category]; done)) ?_
 show Go _ _ _ _ (T0.setTop (mkF m 0 #[vr a1, vr a2, vi (Int32.ofNat po), uS, uS, uS, uS, uS] []))
 refine iL X0 hx (hb Y e17_0) (q := 1) rfl rfl ?_
 refine ifN X0 hx (hb Y e17_1) (q := 4) rfl ((if0 _ _).trans (flt (on_nn (show po < 2147483648 from by omega))).1) ?_
 refine iL X0 hx (hb Y e17_4) (q := 5) rfl rfl ?_
 refine aL X0 hx (hb Y e17_5) (q := 6) rfl rfl rfl ?_
 refine g_vi X0 hx hZ0 hown0 (wd48 hw) (wd49 hw) (notFace_of_selects (args := #[]) (mvT hZ0 (wd51 hw))) (wd51 hw) (wd50 hw) (by decide) Pe1 e0 (Con.back (W := 1) (rm_slen l Z a0 hw zC vF G a1 t1 k1 (cs.map lo8V) (Int32.ofNat n) h0 O0 Pe1 Pc1 Pv1 PB1) hZ0 (wd52 hw) (wd9 hw) (by decide) (by decide)) (by rw [hml]; rfl) (lenOf pd5 rfl) rfl (Nat.le_of_eq rfl) (hb Y e17_6) (q := 9) rfl (by decide) (by decide) ?_
 intro v21 T21 L21 X21 Q21
 obtain ⟨rfl, Nq21, e21⟩ := Q21
 have N21 := Fr.app N0 Nq21
 show Go _ _ _ _ (T21.setTop (mkF m 9 _ [(.int (Int32.ofNat n)), (.int (Int32.ofNat po))]))
 refine aL X21 hx (hb Y e17_9) (q := 10) rfl rfl rfl ?_
 refine g_vi X21 hx hZ0 hown0 (wd48 hw) (wd49 hw) (notFace_of_selects (args := #[]) (mvT hZ0 (wd51 hw))) (wd51 hw) (wd50 hw) (by decide) Pe2 e21 (Con.back (W := 2) (rm_slen l Z a0 hw zC vF G a2 t2 k2 (ds.map lo8V) (Int32.ofNat m2) h0 O0 Pe2 Pc2 Pv2 PB2) hZ0 (wd52 hw) (wd9 hw) (by decide) (by decide)) (by rw [hml]; rfl) (lenOf pd5 rfl) rfl (Nat.le_of_eq rfl) (hb Y e17_10) (q := 13) rfl (by decide) (by decide) ?_
 intro v22 T22 L22 X22 Q22
 obtain ⟨rfl, Nq22, e22⟩ := Q22
 have N22 := Fr.app N21 Nq22
 show Go _ _ _ _ (T22.setTop (mkF m 13 _ [(.int (Int32.ofNat m2)), (.int (Int32.ofNat n)), (.int (Int32.ofNat po))]))
 refine g_isub X22 hx (hb Y e17_13) (q := 14) rfl (z := (Int32.ofNat (n - m2))) (on_sub (show m2 ≤ n from by omega) (show n < 2147483648 from by omega)) ?_
 refine icY X22 hx (hb Y e17_14) (q := 19) (by decide) (by decide) (flt (on_le (show po ≤ n - m2 from by omega) (show n - m2 < 2147483648 from by omega))).2.2.2 ?_
 refine aL X22 hx (hb Y e17_19) (q := 20) rfl rfl rfl ?_
 refine g_getF X22 hx hZ0 hown0 (host := "") (Or.inl (wd53 hw)) Via.refl Pv1 e22 (hb Y e17_20) (q := 23) rfl ?_
 intro T23 X23 e23
 refine sA X23 hx (hb Y e17_23) (q := 24) rfl rfl (Ls' := #[vr a1, vr a2, vi (Int32.ofNat po), vr t1, uS, uS, uS, uS]) rfl ?_
 refine aL X23 hx (hb Y e17_24) (q := 25) rfl rfl rfl ?_
 refine g_getF X23 hx hZ0 hown0 (host := "") (Or.inl (wd53 hw)) Via.refl Pv2 e23 (hb Y e17_25) (q := 28) rfl ?_
 intro T24 X24 e24
 refine sAw X24 hx (hb Y e17_28) (q := 30) rfl rfl (Ls' := #[vr a1, vr a2, vi (Int32.ofNat po), vr t1, vr t2, uS, uS, uS]) rfl ?_
 refine cI X24 hx (hb Y e17_30) (q := 31) rfl (z := 0) rfl ?_
 refine sIw X24 hx (hb Y e17_31) (q := 33) rfl (Ls' := #[vr a1, vr a2, vi (Int32.ofNat po), vr t1, vr t2, vi 0, uS, uS]) rfl ?_
 refine aLw X24 hx (hb Y e17_33) (q := 35) rfl rfl rfl ?_
 refine g_len X24 hx hZ0 PB2 e24 (hb Y e17_35) (q := 36) rfl ?_
 refine sIw X24 hx (hb Y e17_36) (q := 38) rfl (Ls' := #[vr a1, vr a2, vi (Int32.ofNat po), vr t1, vr t2, vi 0, vi (Int32.ofNat m2), uS]) rfl ?_
 refine aL X24 hx (hb Y e17_38) (q := 39) rfl rfl rfl ?_
 refine g_vi X24 hx hZ0 hown0 (wd54 hw) (wd55 hw) (notFace_of_selects (args := #[]) (mvT hZ0 (wd57 hw))) (wd57 hw) (wd56 hw) (by decide) Pe1 e24 (Con.back (W := 0) (rm_coder0 l Z a0 hw zC vF G a1 h0 O0 Pc1) hZ0 (wd58 hw) (wd9 hw) (by decide) (by decide)) (by rw [hml]; rfl) (lenOf pd0 rfl) rfl (Nat.le_of_eq rfl) (hb Y e17_39) (q := 42) rfl (by decide) (by decide) ?_
 intro v25 T25 L25 X25 Q25
 obtain ⟨rfl, Nq25, e25⟩ := Q25
 have N25 := Fr.app N22 Nq25
 show Go _ _ _ _ (T25.setTop (mkF m 42 _ [(iv 0)]))
 refine sIw X25 hx (hb Y e17_42) (q := 44) rfl (Ls' := #[vr a1, vr a2, vi (Int32.ofNat po), vr t1, vr t2, vi 0, vi (Int32.ofNat m2), vi 0]) rfl ?_
 refine iLw X25 hx (hb Y e17_44) (q := 46) rfl rfl ?_
 refine aL X25 hx (hb Y e17_46) (q := 47) rfl rfl rfl ?_
 refine g_vi X25 hx hZ0 hown0 (wd54 hw) (wd55 hw) (notFace_of_selects (args := #[]) (mvT hZ0 (wd57 hw))) (wd57 hw) (wd56 hw) (by decide) Pe2 e25 (Con.back (W := 1) (rm_coder0 l Z a0 hw zC vF G a2 h0 O0 Pc2) hZ0 (wd58 hw) (wd9 hw) (by decide) (by decide)) (by rw [hml]; rfl) (lenOf pd0 rfl) rfl (Nat.le_of_eq rfl) (hb Y e17_47) (q := 50) rfl (by decide) (by decide) ?_
 intro v26 T26 L26 X26 Q26
 obtain ⟨rfl, Nq26, e26⟩ := Q26
 have N26 := Fr.app N25 Nq26
 show Go _ _ _ _ (T26.setTop (mkF m 50 _ [(iv 0), (iv 0)]))
 refine icN X26 hx (hb Y e17_50) (q := 53) rfl (by decide) ?_
 refine iLw X26 hx (hb Y e17_53) (q := 55) rfl rfl ?_
 refine cI X26 hx (hb Y e17_55) (q := 56) rfl (z := 1) rfl ?_
 refine icY X26 hx (hb Y e17_56) (q := 63) (by decide) (by decide) (by decide) ?_
 refine aL X26 hx (hb Y e17_63) (q := 64) rfl rfl rfl ?_
 refine iL X26 hx (hb Y e17_64) (q := 65) rfl rfl ?_
 refine aLw X26 hx (hb Y e17_65) (q := 67) rfl rfl rfl ?_
 refine cI X26 hx (hb Y e17_67) (q := 68) rfl (z := 0) rfl ?_
 refine iLw X26 hx (hb Y e17_68) (q := 70) rfl rfl ?_
 refine g_st X26 hx hZ0 hown0 (wd157 hw) (wd158 hw) (wd159 hw) (wd160 hw) (by decide) e26 (Con.back (W := 0) (rm_mm l Z a0 hw zC vF G t1 k1 cs n t2 k2 ds m2 po 0 m2 h0 O0 PB1 Hn1 Hm1 Hr1 PB2 Hn2 Hm2 Hr2 G1 (show 0 + m2 ≤ m2 from by omega)) hZ0 (wd160 hw) (wd159 hw) (by decide) (by decide)) (by rw [hml]; rfl) (lenOf pd12 rfl) rfl (Nat.le_of_eq rfl) (hb Y e17_70) (q := 73) rfl (by decide) (by decide) ?_
 intro v27 T27 L27 X27 Q27
 obtain ⟨ix_27, rfl, Nq27, e27, q27_0⟩ := Q27
 have N27 := Fr.app N26 Nq27
 show Go _ _ _ _ (T27.setTop (mkF m 73 _ [(.int ix_27)]))
 rcases q27_0 with ⟨hE, rfl⟩ | ⟨hE, hN⟩
 ·show Go _ _ _ _ (T27.setTop (mkF m 73 #[vr a1, vr a2, vi (Int32.ofNat po), vr t1, vr t2, vi 0, vi (Int32.ofNat m2), vi 0] [(.int (-1 : Int32))]))
  refine ifN X27 hx (hb Y e17_73) (q := 76) rfl (by decide) ?_
  refine cI X27 hx (hb Y e17_76) (q := 77) rfl (z := 1) rfl ?_
  refine g_goto X27 hx (hb Y e17_77) (q := 81) (by decide) (by decide) ?_
  refine endP X27 hlk (fun h => by rw [hret] at h; cases h) (lastN X27 hx (t := .boolean) (z' := (1 : Int32)) hret (by simp) (by decide) (hb Y e17_81)) ?_ (by decide) (by decide)
  rw [e27]
  exact ⟨(1 : Int32), rfl, N27, rfl, (Or.inl ⟨hE, rfl⟩)⟩
 ·show Go _ _ _ _ (T27.setTop (mkF m 73 #[vr a1, vr a2, vi (Int32.ofNat po), vr t1, vr t2, vi 0, vi (Int32.ofNat m2), vi 0] [(.int ix_27)]))
  refine ifY X27 hx (hb Y e17_73) (q := 80) (by decide) (by decide) ((if0 _ _).trans (flt hN).2.1) ?_
  refine cI X27 hx (hb Y e17_80) (q := 81) rfl (z := 0) rfl ?_
  refine endP X27 hlk (fun h => by rw [hret] at h; cases h) (lastN X27 hx (t := .boolean) (z' := (0 : Int32)) hret (by simp) (by decide) (hb Y e17_81)) ?_ (by decide) (by decide)
  rw [e27]
  exact ⟨(0 : Int32), rfl, N27, rfl, (Or.inr ⟨hE, rfl⟩)⟩
theorem e17_17 : Dc kC27 17 (.iconst 0) 1 := by decide +kernel
theorem e17_18 : Dc kC27 18 .ireturn 1 := by decide +kernel
def Q_swX (Z : State) (zC : Int32) (vF : Value) (a1 t1 : Addr) (k1 : ClassId) (cs : List Int32) (n : Nat) (a2 t2 : Addr) (k2 : ClassId) (ds : List Int32) (m2 po : Nat) (h0 : Heap) (v : Option Value) (h : Heap) (L : List Loc) : Prop := v = some (iv 0) ∧ Fr Z.heap.size L ∧ h = h0
theorem rm_swX (l : Launch) (Z : State) (a0 : Array Value) (hw : HW a0 Z) (zC : Int32) (vF : Value) (G : GB l a0 Z zC vF) (a1 t1 : Addr) (k1 : ClassId) (cs : List Int32) (n : Nat) (a2 t2 : Addr) (k2 : ClassId) (ds : List Int32) (m2 po : Nat) (h0 : Heap) (O0 : Old Z Z.heap.size h0) (Pe1 : Exa Z h0 a1 sT0) (Pc1 : Fld Z h0 a1 sT0 "coder" "B" (iv 0)) (Pv1 : Fld Z h0 a1 sT0 "value" "[B" (.ref t1)) (PB1 : Arv Z h0 t1 k1 .byte (Int32.ofNat n) (cs.map lo8V) (.int 0)) (Hn1 : (cs.length = n)) (Hm1 : (n ≤ 6)) (Hr1 : (ALL cs)) (Pe2 : Exa Z h0 a2 sT0) (Pc2 : Fld Z h0 a2 sT0 "coder" "B" (iv 0)) (Pv2 : Fld Z h0 a2 sT0 "value" "[B" (.ref t2)) (PB2 : Arv Z h0 t2 k2 .byte (Int32.ofNat m2) (ds.map lo8V) (.int 0)) (Hn2 : (ds.length = m2)) (Hm2 : (m2 ≤ 6)) (Hr2 : (ALL ds)) (G1 : (n < po + m2)) (G2 : (po ≤ 6)) :
    Con l Z (⟨sT0, "startsWith", "(Ljava/lang/String;I)Z"⟩ : MethodName) kC27 8 (some .boolean) ({ frames := 2, cells := 0, slots := 0, locals := 27 } : Room) #[(.ref a1), (.ref a2), (.int (Int32.ofNat po))] h0 (Q_swX Z zC vF a1 t1 k1 cs n a2 t2 k2 ds m2 po h0) := by
 refine Con.intro (plainFor_of_name pn0) ?_
 intro p e s m below meth c T0 X0 hx Y hml hown0 hnm hret hlk hZ0 e0
 have N0 := Fr.nil Z.heap.size
 refine castGo (g' := mkF m 0 #[vr a1, vr a2, vi (Int32.ofNat po), uS, uS, uS, uS, uS] []) (by first | rfl | (simp [entryFrame, mkF, argsToLocals, Value.category]; done)) ?_
 show Go _ _ _ _ (T0.setTop (mkF m 0 #[vr a1, vr a2, vi (Int32.ofNat po), uS, uS, uS, uS, uS] []))
 refine iL X0 hx (hb Y e17_0) (q := 1) rfl rfl ?_
 refine ifN X0 hx (hb Y e17_1) (q := 4) rfl ((if0 _ _).trans (flt (on_nn (show po < 2147483648 from by omega))).1) ?_
 refine iL X0 hx (hb Y e17_4) (q := 5) rfl rfl ?_
 refine aL X0 hx (hb Y e17_5) (q := 6) rfl rfl rfl ?_
 refine g_vi X0 hx hZ0 hown0 (wd48 hw) (wd49 hw) (notFace_of_selects (args := #[]) (mvT hZ0 (wd51 hw))) (wd51 hw) (wd50 hw) (by decide) Pe1 e0 (Con.back (W := 1) (rm_slen l Z a0 hw zC vF G a1 t1 k1 (cs.map lo8V) (Int32.ofNat n) h0 O0 Pe1 Pc1 Pv1 PB1) hZ0 (wd52 hw) (wd9 hw) (by decide) (by decide)) (by rw [hml]; rfl) (lenOf pd5 rfl) rfl (Nat.le_of_eq rfl) (hb Y e17_6) (q := 9) rfl (by decide) (by decide) ?_
 intro v21 T21 L21 X21 Q21
 obtain ⟨rfl, Nq21, e21⟩ := Q21
 have N21 := Fr.app N0 Nq21
 show Go _ _ _ _ (T21.setTop (mkF m 9 _ [(.int (Int32.ofNat n)), (.int (Int32.ofNat po))]))
 refine aL X21 hx (hb Y e17_9) (q := 10) rfl rfl rfl ?_
 refine g_vi X21 hx hZ0 hown0 (wd48 hw) (wd49 hw) (notFace_of_selects (args := #[]) (mvT hZ0 (wd51 hw))) (wd51 hw) (wd50 hw) (by decide) Pe2 e21 (Con.back (W := 2) (rm_slen l Z a0 hw zC vF G a2 t2 k2 (ds.map lo8V) (Int32.ofNat m2) h0 O0 Pe2 Pc2 Pv2 PB2) hZ0 (wd52 hw) (wd9 hw) (by decide) (by decide)) (by rw [hml]; rfl) (lenOf pd5 rfl) rfl (Nat.le_of_eq rfl) (hb Y e17_10) (q := 13) rfl (by decide) (by decide) ?_
 intro v22 T22 L22 X22 Q22
 obtain ⟨rfl, Nq22, e22⟩ := Q22
 have N22 := Fr.app N21 Nq22
 show Go _ _ _ _ (T22.setTop (mkF m 13 _ [(.int (Int32.ofNat m2)), (.int (Int32.ofNat n)), (.int (Int32.ofNat po))]))
 refine g_isub X22 hx (hb Y e17_13) (q := 14) rfl rfl ?_
 refine icN X22 hx (hb Y e17_14) (q := 17) rfl (tlt (on_subl (by omega) (by omega) (by omega) G1)).2.2.2 ?_
 refine cI X22 hx (hb Y e17_17) (q := 18) rfl (z := 0) rfl ?_
 refine endP X22 hlk (fun h => by rw [hret] at h; cases h) (lastN X22 hx (t := .boolean) (z' := (0 : Int32)) hret (by simp) (by decide) (hb Y e17_18)) ?_ (by decide) (by decide)
 rw [e22]
 exact ⟨rfl, N22, rfl⟩
def Q_swM (Z : State) (zC : Int32) (vF : Value) (a1 a2 : Addr) (of : Int32) (h0 : Heap) (v : Option Value) (h : Heap) (L : List Loc) : Prop := v = some (iv 0) ∧ Fr Z.heap.size L ∧ h = h0
theorem rm_swM (l : Launch) (Z : State) (a0 : Array Value) (hw : HW a0 Z) (zC : Int32) (vF : Value) (G : GB l a0 Z zC vF) (a1 a2 : Addr) (of : Int32) (h0 : Heap) (O0 : Old Z Z.heap.size h0) (G1 : (of < (0 : Int32))) :
    Con l Z (⟨sT0, "startsWith", "(Ljava/lang/String;I)Z"⟩ : MethodName) kC27 8 (some .boolean) ({ frames := 0, cells := 0, slots := 0, locals := 0 } : Room) #[(.ref a1), (.ref a2), (.int of)] h0 (Q_swM Z zC vF a1 a2 of h0) := by
 refine Con.intro (plainFor_of_name pn0) ?_
 intro p e s m below meth c T0 X0 hx Y hml hown0 hnm hret hlk hZ0 e0
 have N0 := Fr.nil Z.heap.size
 refine castGo (g' := mkF m 0 #[vr a1, vr a2, vi of, uS, uS, uS, uS, uS] []) (by first | rfl | (simp [entryFrame, mkF, argsToLocals, Value.category]; done)) ?_
 show Go _ _ _ _ (T0.setTop (mkF m 0 #[vr a1, vr a2, vi of, uS, uS, uS, uS, uS] []))
 refine iL X0 hx (hb Y e17_0) (q := 1) rfl rfl ?_
 refine ifY X0 hx (hb Y e17_1) (q := 17) (by decide) (by decide) ((if0 _ _).trans (tlt G1).1) ?_
 refine cI X0 hx (hb Y e17_17) (q := 18) rfl (z := 0) rfl ?_
 refine endP X0 hlk (fun h => by rw [hret] at h; cases h) (lastN X0 hx (t := .boolean) (z' := (0 : Int32)) hret (by simp) (by decide) (hb Y e17_18)) ?_ (by decide) (by decide)
 rw [e0]
 exact ⟨rfl, N0, rfl⟩
theorem e18_0 : Dc kC31 0 (.aload_n 0) 1 := by decide +kernel
theorem e18_1 : Dc kC31 1 (.aload_n 1) 1 := by decide +kernel
theorem e18_2 : Dc kC31 2 (.iconst 0) 1 := by decide +kernel
theorem e18_3 : Dc kC31 3 (.invokevirtual 624) 3 := by decide +kernel
theorem wd65 (hw : HW a0 Z) : BW a0 Z (.code ⟨sT0, "startsWith", "(Ljava/lang/String;I)Z"⟩ kC27 (8 : Nat) (Option.some Jvm.ClassFile.FieldType.boolean)) := wat hw 65 rfl
theorem pd13 : parseMethodDescriptor "(Ljava/lang/String;I)Z" = some ⟨[(.object "java/lang/String"), .int], some .boolean⟩ := by decide +kernel
theorem wd64 (hw : HW a0 Z) : BW a0 Z (.selects sT0 ⟨sT0, "startsWith", "(Ljava/lang/String;I)Z"⟩ ⟨sT0, "startsWith", "(Ljava/lang/String;I)Z"⟩) := wat hw 64 rfl
theorem wd61 (hw : HW a0 Z) : BW a0 Z (.methodLink sT0 (624 : Nat) ⟨sT0, "startsWith", "(Ljava/lang/String;I)Z"⟩) := wat hw 61 rfl
theorem wd62 (hw : HW a0 Z) : BW a0 Z (.declares ⟨sT0, "startsWith", "(Ljava/lang/String;I)Z"⟩) := wat hw 62 rfl
theorem wd63 (hw : HW a0 Z) : BW a0 Z (.instanceMethod ⟨sT0, "startsWith", "(Ljava/lang/String;I)Z"⟩) := wat hw 63 rfl
theorem e18_6 : Dc kC31 6 .ireturn 1 := by decide +kernel
def Q_sw1 (Z : State) (zC : Int32) (vF : Value) (a1 t1 : Addr) (k1 : ClassId) (cs : List Int32) (n : Nat) (a2 t2 : Addr) (k2 : ClassId) (ds : List Int32) (m2 : Nat) (h0 : Heap) (v : Option Value) (h : Heap) (L : List Loc) : Prop := ∃ (bb : Int32), v = some (.int bb) ∧ Fr Z.heap.size L ∧ h = h0 ∧ (BIT bb (m2 ≤ n ∧ EQS cs 0 ds 0 m2))
theorem rm_sw1 (l : Launch) (Z : State) (a0 : Array Value) (hw : HW a0 Z) (zC : Int32) (vF : Value) (G : GB l a0 Z zC vF) (a1 t1 : Addr) (k1 : ClassId) (cs : List Int32) (n : Nat) (a2 t2 : Addr) (k2 : ClassId) (ds : List Int32) (m2 : Nat) (h0 : Heap) (O0 : Old Z Z.heap.size h0) (Pe1 : Exa Z h0 a1 sT0) (Pc1 : Fld Z h0 a1 sT0 "coder" "B" (iv 0)) (Pv1 : Fld Z h0 a1 sT0 "value" "[B" (.ref t1)) (PB1 : Arv Z h0 t1 k1 .byte (Int32.ofNat n) (cs.map lo8V) (.int 0)) (Hn1 : (cs.length = n)) (Hm1 : (n ≤ 6)) (Hr1 : (ALL cs)) (Pe2 : Exa Z h0 a2 sT0) (Pc2 : Fld Z h0 a2 sT0 "coder" "B" (iv 0)) (Pv2 : Fld Z h0 a2 sT0 "value" "[B" (.ref t2)) (PB2 : Arv Z h0 t2 k2 .byte (Int32.ofNat m2) (ds.map lo8V) (.int 0)) (Hn2 : (ds.length = m2)) (Hm2 : (m2 ≤ 6)) (Hr2 : (ALL ds)) :
    Con l Z (⟨sT0, "startsWith", "(Ljava/lang/String;)Z"⟩ : MethodName) kC31 2 (some .boolean) ({ frames := 3, cells := 0, slots := 0, locals := 46 } : Room) #[(.ref a1), (.ref a2)] h0 (Q_sw1 Z zC vF a1 t1 k1 cs n a2 t2 k2 ds m2 h0) := by
 refine Con.intro (plainFor_of_name pn0) ?_
 intro p e s m below meth c T0 X0 hx Y hml hown0 hnm hret hlk hZ0 e0
 have N0 := Fr.nil Z.heap.size
 refine castGo (g' := mkF m 0 #[vr a1, vr a2] []) (by first | rfl | (simp [entryFrame, mkF, argsToLocals, Value.category]; done)) ?_
 show Go _ _ _ _ (T0.setTop (mkF m 0 #[vr a1, vr a2] []))
 rcases Nat.lt_or_ge n m2 with hf | hf
 ·show Go _ _ _ _ (T0.setTop (mkF m 0 #[vr a1, vr a2] []))
  refine aL X0 hx (hb Y e18_0) (q := 1) rfl rfl rfl ?_
  refine aL X0 hx (hb Y e18_1) (q := 2) rfl rfl rfl ?_
  refine cI X0 hx (hb Y e18_2) (q := 3) rfl (z := 0) rfl ?_
  refine g_vi X0 hx hZ0 hown0 (wd61 hw) (wd62 hw) (notFace_of_selects (args := #[]) (mvT hZ0 (wd64 hw))) (wd64 hw) (wd63 hw) (by decide) Pe1 e0 (Con.back (W := 0) (rm_swX l Z a0 hw zC vF G a1 t1 k1 cs n a2 t2 k2 ds m2 0 h0 O0 Pe1 Pc1 Pv1 PB1 Hn1 Hm1 Hr1 Pe2 Pc2 Pv2 PB2 Hn2 Hm2 Hr2 (show n < 0 + m2 from by omega) (show 0 ≤ 6 from by omega)) hZ0 (wd65 hw) (wd9 hw) (by decide) (by decide)) (by rw [hml]; rfl) (lenOf pd13 rfl) rfl (Nat.le_of_eq rfl) (hb Y e18_3) (q := 6) rfl (by decide) (by decide) ?_
  intro v21 T21 L21 X21 Q21
  obtain ⟨rfl, Nq21, e21⟩ := Q21
  have N21 := Fr.app N0 Nq21
  show Go _ _ _ _ (T21.setTop (mkF m 6 _ [(iv 0)]))
  refine endP X21 hlk (fun h => by rw [hret] at h; cases h) (lastN X21 hx (t := .boolean) (z' := (0 : Int32)) hret (by simp) (by decide) (hb Y e18_6)) ?_ (by decide) (by decide)
  rw [e21]
  exact ⟨(0 : Int32), rfl, N21, rfl, (Or.inr ⟨fun z => absurd z.1 (by omega), rfl⟩)⟩
 ·show Go _ _ _ _ (T0.setTop (mkF m 0 #[vr a1, vr a2] []))
  refine aL X0 hx (hb Y e18_0) (q := 1) rfl rfl rfl ?_
  refine aL X0 hx (hb Y e18_1) (q := 2) rfl rfl rfl ?_
  refine cI X0 hx (hb Y e18_2) (q := 3) rfl (z := 0) rfl ?_
  refine g_vi X0 hx hZ0 hown0 (wd61 hw) (wd62 hw) (notFace_of_selects (args := #[]) (mvT hZ0 (wd64 hw))) (wd64 hw) (wd63 hw) (by decide) Pe1 e0 (Con.back (W := 0) (rm_sw l Z a0 hw zC vF G a1 t1 k1 cs n a2 t2 k2 ds m2 0 h0 O0 Pe1 Pc1 Pv1 PB1 Hn1 Hm1 Hr1 Pe2 Pc2 Pv2 PB2 Hn2 Hm2 Hr2 (show 0 + m2 ≤ n from by omega)) hZ0 (wd65 hw) (wd9 hw) (by decide) (by decide)) (by rw [hml]; rfl) (lenOf pd13 rfl) rfl (Nat.le_of_eq rfl) (hb Y e18_3) (q := 6) rfl (by decide) (by decide) ?_
  intro v22 T22 L22 X22 Q22
  obtain ⟨bb_22, rfl, Nq22, e22, q22_0⟩ := Q22
  have N22 := Fr.app N0 Nq22
  show Go _ _ _ _ (T22.setTop (mkF m 6 _ [(.int bb_22)]))
  rcases q22_0 with ⟨hE, rfl⟩ | ⟨hE, rfl⟩
  ·show Go _ _ _ _ (T22.setTop (mkF m 6 #[vr a1, vr a2] [(iv 1)]))
   refine endP X22 hlk (fun h => by rw [hret] at h; cases h) (lastN X22 hx (t := .boolean) (z' := (1 : Int32)) hret (by simp) (by decide) (hb Y e18_6)) ?_ (by decide) (by decide)
   rw [e22]
   exact ⟨(1 : Int32), rfl, N22, rfl, (Or.inl ⟨⟨hf, hE⟩, rfl⟩)⟩
  ·show Go _ _ _ _ (T22.setTop (mkF m 6 #[vr a1, vr a2] [(iv 0)]))
   refine endP X22 hlk (fun h => by rw [hret] at h; cases h) (lastN X22 hx (t := .boolean) (z' := (0 : Int32)) hret (by simp) (by decide) (hb Y e18_6)) ?_ (by decide) (by decide)
   rw [e22]
   exact ⟨(0 : Int32), rfl, N22, rfl, (Or.inr ⟨fun z => hE z.2, rfl⟩)⟩
theorem e19_0 : Dc kC36 0 (.aload_n 0) 1 := by decide +kernel
theorem e19_1 : Dc kC36 1 (.aload_n 1) 1 := by decide +kernel
theorem e19_2 : Dc kC36 2 (.aload_n 0) 1 := by decide +kernel
theorem e19_3 : Dc kC36 3 (.invokevirtual 505) 3 := by decide +kernel
theorem e19_6 : Dc kC36 6 (.aload_n 1) 1 := by decide +kernel
theorem e19_7 : Dc kC36 7 (.invokevirtual 505) 3 := by decide +kernel
theorem e19_10 : Dc kC36 10 .isub 1 := by decide +kernel
theorem e19_11 : Dc kC36 11 (.invokevirtual 624) 3 := by decide +kernel
theorem e19_14 : Dc kC36 14 .ireturn 1 := by decide +kernel
def Q_ew (Z : State) (zC : Int32) (vF : Value) (a1 t1 : Addr) (k1 : ClassId) (cs : List Int32) (n : Nat) (a2 t2 : Addr) (k2 : ClassId) (ds : List Int32) (m2 : Nat) (h0 : Heap) (v : Option Value) (h : Heap) (L : List Loc) : Prop := ∃ (bb : Int32), v = some (.int bb) ∧ Fr Z.heap.size L ∧ h = h0 ∧ (BIT bb (m2 ≤ n ∧ EQS cs (n - m2) ds 0 m2))
theorem rm_ew (l : Launch) (Z : State) (a0 : Array Value) (hw : HW a0 Z) (zC : Int32) (vF : Value) (G : GB l a0 Z zC vF) (a1 t1 : Addr) (k1 : ClassId) (cs : List Int32) (n : Nat) (a2 t2 : Addr) (k2 : ClassId) (ds : List Int32) (m2 : Nat) (h0 : Heap) (O0 : Old Z Z.heap.size h0) (Pe1 : Exa Z h0 a1 sT0) (Pc1 : Fld Z h0 a1 sT0 "coder" "B" (iv 0)) (Pv1 : Fld Z h0 a1 sT0 "value" "[B" (.ref t1)) (PB1 : Arv Z h0 t1 k1 .byte (Int32.ofNat n) (cs.map lo8V) (.int 0)) (Hn1 : (cs.length = n)) (Hm1 : (n ≤ 6)) (Hr1 : (ALL cs)) (Pe2 : Exa Z h0 a2 sT0) (Pc2 : Fld Z h0 a2 sT0 "coder" "B" (iv 0)) (Pv2 : Fld Z h0 a2 sT0 "value" "[B" (.ref t2)) (PB2 : Arv Z h0 t2 k2 .byte (Int32.ofNat m2) (ds.map lo8V) (.int 0)) (Hn2 : (ds.length = m2)) (Hm2 : (m2 ≤ 6)) (Hr2 : (ALL ds)) :
    Con l Z (⟨sT0, "endsWith", "(Ljava/lang/String;)Z"⟩ : MethodName) kC36 2 (some .boolean) ({ frames := 3, cells := 0, slots := 0, locals := 46 } : Room) #[(.ref a1), (.ref a2)] h0 (Q_ew Z zC vF a1 t1 k1 cs n a2 t2 k2 ds m2 h0) := by
 refine Con.intro (plainFor_of_name pn0) ?_
 intro p e s m below meth c T0 X0 hx Y hml hown0 hnm hret hlk hZ0 e0
 have N0 := Fr.nil Z.heap.size
 refine castGo (g' := mkF m 0 #[vr a1, vr a2] []) (by first | rfl | (simp [entryFrame, mkF, argsToLocals, Value.category]; done)) ?_
 show Go _ _ _ _ (T0.setTop (mkF m 0 #[vr a1, vr a2] []))
 refine aL X0 hx (hb Y e19_0) (q := 1) rfl rfl rfl ?_
 refine aL X0 hx (hb Y e19_1) (q := 2) rfl rfl rfl ?_
 refine aL X0 hx (hb Y e19_2) (q := 3) rfl rfl rfl ?_
 refine g_vi X0 hx hZ0 hown0 (wd48 hw) (wd49 hw) (notFace_of_selects (args := #[]) (mvT hZ0 (wd51 hw))) (wd51 hw) (wd50 hw) (by decide) Pe1 e0 (Con.back (W := 2) (rm_slen l Z a0 hw zC vF G a1 t1 k1 (cs.map lo8V) (Int32.ofNat n) h0 O0 Pe1 Pc1 Pv1 PB1) hZ0 (wd52 hw) (wd9 hw) (by decide) (by decide)) (by rw [hml]; rfl) (lenOf pd5 rfl) rfl (Nat.le_of_eq rfl) (hb Y e19_3) (q := 6) rfl (by decide) (by decide) ?_
 intro v21 T21 L21 X21 Q21
 obtain ⟨rfl, Nq21, e21⟩ := Q21
 have N21 := Fr.app N0 Nq21
 show Go _ _ _ _ (T21.setTop (mkF m 6 _ [(.int (Int32.ofNat n)), (.ref a2), (.ref a1)]))
 refine aL X21 hx (hb Y e19_6) (q := 7) rfl rfl rfl ?_
 refine g_vi X21 hx hZ0 hown0 (wd48 hw) (wd49 hw) (notFace_of_selects (args := #[]) (mvT hZ0 (wd51 hw))) (wd51 hw) (wd50 hw) (by decide) Pe2 e21 (Con.back (W := 3) (rm_slen l Z a0 hw zC vF G a2 t2 k2 (ds.map lo8V) (Int32.ofNat m2) h0 O0 Pe2 Pc2 Pv2 PB2) hZ0 (wd52 hw) (wd9 hw) (by decide) (by decide)) (by rw [hml]; rfl) (lenOf pd5 rfl) rfl (Nat.le_of_eq rfl) (hb Y e19_7) (q := 10) rfl (by decide) (by decide) ?_
 intro v22 T22 L22 X22 Q22
 obtain ⟨rfl, Nq22, e22⟩ := Q22
 have N22 := Fr.app N21 Nq22
 show Go _ _ _ _ (T22.setTop (mkF m 10 _ [(.int (Int32.ofNat m2)), (.int (Int32.ofNat n)), (.ref a2), (.ref a1)]))
 rcases Nat.lt_or_ge n m2 with hf | hf
 ·show Go _ _ _ _ (T22.setTop (mkF m 10 #[vr a1, vr a2] [(.int (Int32.ofNat m2)), (.int (Int32.ofNat n)), (.ref a2), (.ref a1)]))
  refine g_isub X22 hx (hb Y e19_10) (q := 11) rfl rfl ?_
  refine g_vi X22 hx hZ0 hown0 (wd61 hw) (wd62 hw) (notFace_of_selects (args := #[]) (mvT hZ0 (wd64 hw))) (wd64 hw) (wd63 hw) (by decide) Pe1 e22 (Con.back (W := 0) (rm_swM l Z a0 hw zC vF G a1 a2 ((Int32.ofNat n) - (Int32.ofNat m2)) h0 O0 (on_subl (k := 0) (by omega) (by omega) (by decide) (show n < 0 + m2 from by omega))) hZ0 (wd65 hw) (wd9 hw) (by decide) (by decide)) (by rw [hml]; rfl) (lenOf pd13 rfl) rfl (Nat.le_of_eq rfl) (hb Y e19_11) (q := 14) rfl (by decide) (by decide) ?_
  intro v23 T23 L23 X23 Q23
  obtain ⟨rfl, Nq23, e23⟩ := Q23
  have N23 := Fr.app N22 Nq23
  show Go _ _ _ _ (T23.setTop (mkF m 14 _ [(iv 0)]))
  refine endP X23 hlk (fun h => by rw [hret] at h; cases h) (lastN X23 hx (t := .boolean) (z' := (0 : Int32)) hret (by simp) (by decide) (hb Y e19_14)) ?_ (by decide) (by decide)
  rw [e23]
  exact ⟨(0 : Int32), rfl, N23, rfl, (Or.inr ⟨fun z => absurd z.1 (by omega), rfl⟩)⟩
 ·show Go _ _ _ _ (T22.setTop (mkF m 10 #[vr a1, vr a2] [(.int (Int32.ofNat m2)), (.int (Int32.ofNat n)), (.ref a2), (.ref a1)]))
  refine g_isub X22 hx (hb Y e19_10) (q := 11) rfl (z := (Int32.ofNat (n - m2))) (on_sub (show m2 ≤ n from by omega) (show n < 2147483648 from by omega)) ?_
  refine g_vi X22 hx hZ0 hown0 (wd61 hw) (wd62 hw) (notFace_of_selects (args := #[]) (mvT hZ0 (wd64 hw))) (wd64 hw) (wd63 hw) (by decide) Pe1 e22 (Con.back (W := 0) (rm_sw l Z a0 hw zC vF G a1 t1 k1 cs n a2 t2 k2 ds m2 (n - m2) h0 O0 Pe1 Pc1 Pv1 PB1 Hn1 Hm1 Hr1 Pe2 Pc2 Pv2 PB2 Hn2 Hm2 Hr2 (show (n - m2) + m2 ≤ n from by omega)) hZ0 (wd65 hw) (wd9 hw) (by decide) (by decide)) (by rw [hml]; rfl) (lenOf pd13 rfl) rfl (Nat.le_of_eq rfl) (hb Y e19_11) (q := 14) rfl (by decide) (by decide) ?_
  intro v24 T24 L24 X24 Q24
  obtain ⟨bb_24, rfl, Nq24, e24, q24_0⟩ := Q24
  have N24 := Fr.app N22 Nq24
  show Go _ _ _ _ (T24.setTop (mkF m 14 _ [(.int bb_24)]))
  rcases q24_0 with ⟨hE, rfl⟩ | ⟨hE, rfl⟩
  ·show Go _ _ _ _ (T24.setTop (mkF m 14 #[vr a1, vr a2] [(iv 1)]))
   refine endP X24 hlk (fun h => by rw [hret] at h; cases h) (lastN X24 hx (t := .boolean) (z' := (1 : Int32)) hret (by simp) (by decide) (hb Y e19_14)) ?_ (by decide) (by decide)
   rw [e24]
   exact ⟨(1 : Int32), rfl, N24, rfl, (Or.inl ⟨⟨hf, hE⟩, rfl⟩)⟩
  ·show Go _ _ _ _ (T24.setTop (mkF m 14 #[vr a1, vr a2] [(iv 0)]))
   refine endP X24 hlk (fun h => by rw [hret] at h; cases h) (lastN X24 hx (t := .boolean) (z' := (0 : Int32)) hret (by simp) (by decide) (hb Y e19_14)) ?_ (by decide) (by decide)
   rw [e24]
   exact ⟨(0 : Int32), rfl, N24, rfl, (Or.inr ⟨fun z => hE z.2, rfl⟩)⟩
theorem e25_0 : Dc kC24 0 (.aload_n 0) 1 := by decide +kernel
theorem e25_1 : Dc kC24 1 .arraylength 1 := by decide +kernel
theorem e25_2 : Dc kC24 2 (.aload_n 1) 1 := by decide +kernel
theorem e25_3 : Dc kC24 3 .arraylength 1 := by decide +kernel
theorem e25_4 : Dc kC24 4 (.if_icmp .ne 30) 3 := by decide +kernel
theorem e25_7 : Dc kC24 7 (.iconst 0) 1 := by decide +kernel
theorem e25_8 : Dc kC24 8 (.istore_n 2) 1 := by decide +kernel
theorem e25_9 : Dc kC24 9 (.iload_n 2) 1 := by decide +kernel
theorem e25_10 : Dc kC24 10 (.aload_n 0) 1 := by decide +kernel
theorem e25_11 : Dc kC24 11 .arraylength 1 := by decide +kernel
theorem e25_12 : Dc kC24 12 (.if_icmp .ge 20) 3 := by decide +kernel
theorem e25_32 : Dc kC24 32 (.iconst 1) 1 := by decide +kernel
theorem e25_33 : Dc kC24 33 .ireturn 1 := by decide +kernel
theorem e25_15 : Dc kC24 15 (.aload_n 0) 1 := by decide +kernel
theorem e25_16 : Dc kC24 16 (.iload_n 2) 1 := by decide +kernel
theorem e25_17 : Dc kC24 17 .baload 1 := by decide +kernel
theorem e25_18 : Dc kC24 18 (.aload_n 1) 1 := by decide +kernel
theorem e25_19 : Dc kC24 19 (.iload_n 2) 1 := by decide +kernel
theorem e25_20 : Dc kC24 20 .baload 1 := by decide +kernel
theorem e25_21 : Dc kC24 21 (.if_icmp .eq 5) 3 := by decide +kernel
theorem e25_26 : Dc kC24 26 (.iinc 2 1) 3 := by decide +kernel
theorem e25_29 : Dc kC24 29 (.goto (-20)) 3 := by decide +kernel
theorem e25_24 : Dc kC24 24 (.iconst 0) 1 := by decide +kernel
theorem e25_25 : Dc kC24 25 .ireturn 1 := by decide +kernel
theorem e25_34 : Dc kC24 34 (.iconst 0) 1 := by decide +kernel
theorem e25_35 : Dc kC24 35 .ireturn 1 := by decide +kernel
def Q_leqg (Z : State) (zC : Int32) (vF : Value) (t1 : Addr) (k1 : ClassId) (cs : List Int32) (n : Nat) (t2 : Addr) (k2 : ClassId) (ds : List Int32) (m2 : Nat) (h0 : Heap) (v : Option Value) (h : Heap) (L : List Loc) : Prop := ∃ (bb : Int32), v = some (.int bb) ∧ Fr Z.heap.size L ∧ h = h0 ∧ (BIT bb (cs = ds))
theorem rm_leqg (l : Launch) (Z : State) (a0 : Array Value) (hw : HW a0 Z) (zC : Int32) (vF : Value) (G : GB l a0 Z zC vF) (t1 : Addr) (k1 : ClassId) (cs : List Int32) (n : Nat) (t2 : Addr) (k2 : ClassId) (ds : List Int32) (m2 : Nat) (h0 : Heap) (O0 : Old Z Z.heap.size h0) (PB1 : Arv Z h0 t1 k1 .byte (Int32.ofNat n) (cs.map lo8V) (.int 0)) (Hn1 : (cs.length = n)) (Hm1 : (n ≤ 6)) (Hr1 : (ALL cs)) (PB2 : Arv Z h0 t2 k2 .byte (Int32.ofNat m2) (ds.map lo8V) (.int 0)) (Hn2 : (ds.length = m2)) (Hm2 : (m2 ≤ 6)) (Hr2 : (ALL ds)) :
    Con l Z (⟨"java/lang/StringLatin1", "equals", "([B[B)Z"⟩ : MethodName) kC24 3 (some .boolean) ({ frames := 0, cells := 0, slots := 0, locals := 0 } : Room) #[(.ref t1), (.ref t2)] h0 (Q_leqg Z zC vF t1 k1 cs n t2 k2 ds m2 h0) := by
 refine Con.intro (plainFor_of_name pn2) ?_
 intro p e s m below meth c T0 X0 hx Y hml hown0 hnm hret hlk hZ0 e0
 have N0 := Fr.nil Z.heap.size
 refine castGo (g' := mkF m 0 #[vr t1, vr t2, uS] []) (by first | rfl | (simp [entryFrame, mkF, argsToLocals, Value.category]; done)) ?_
 show Go _ _ _ _ (T0.setTop (mkF m 0 #[vr t1, vr t2, uS] []))
 refine aL X0 hx (hb Y e25_0) (q := 1) rfl rfl rfl ?_
 refine g_len X0 hx hZ0 PB1 e0 (hb Y e25_1) (q := 2) rfl ?_
 refine aL X0 hx (hb Y e25_2) (q := 3) rfl rfl rfl ?_
 refine g_len X0 hx hZ0 PB2 e0 (hb Y e25_3) (q := 4) rfl ?_
 rcases Classical.em (n = m2) with hl2 | hl2
 ·have hq : Int32.ofNat n = Int32.ofNat m2 := by rw [hl2]
  show Go _ _ _ _ (T0.setTop (mkF m 4 #[vr t1, vr t2, uS] [(.int (Int32.ofNat m2)), (.int (Int32.ofNat n))]))
  refine icN X0 hx (hb Y e25_4) (q := 7) rfl (teq hq).2 ?_
  refine cI X0 hx (hb Y e25_7) (q := 8) rfl (z := 0) rfl ?_
  refine sI X0 hx (hb Y e25_8) (q := 9) rfl (Ls' := #[vr t1, vr t2, vi 0]) rfl ?_
  have lp21 : ∀ (k21 i21 : Nat) (T21 : State) (L21 : List Loc), i21 + k21 = n → Stand p l e ({ frames := 0, cells := 0, slots := 0, locals := 0 } : Room) s m #[(.ref t1), (.ref t2)] below meth c T21 L21 0 0 → T21.heap = h0 → Fr Z.heap.size L21 → (∀ j, j < i21 → cs.getD j 0 = ds.getD j 0) → Go p.tables e below (PEnd s (Q_leqg Z zC vF t1 k1 cs n t2 k2 ds m2 h0) ({ frames := 0, cells := 0, slots := 0, locals := 0 } : Room).cells ({ frames := 0, cells := 0, slots := 0, locals := 0 } : Room).slots) (T21.setTop (mkF m 9 #[vr t1, vr t2, vi (Int32.ofNat i21)] [])) := by
   intro k21
   induction k21 with
   | zero =>
    intro i21 T21 L21  hk21 X21 e21 N21 q1
    have hi21 : i21 = n := by omega
    have nb21 : i21 < 2147483648 := by omega
    have hz21 : ¬ (Int32.ofNat i21 < Int32.ofNat n) := by rw [hi21]; exact lt_irr
    show Go _ _ _ _ (T21.setTop (mkF m 9 #[vr t1, vr t2, vi (Int32.ofNat i21)] []))
    refine iL X21 hx (hb Y e25_9) (q := 10) rfl rfl ?_
    refine aL X21 hx (hb Y e25_10) (q := 11) rfl rfl rfl ?_
    refine g_len X21 hx hZ0 PB1 e21 (hb Y e25_11) (q := 12) rfl ?_
    refine icY X21 hx (hb Y e25_12) (q := 32) (by decide) (by decide) (flt hz21).2.1 ?_
    refine cI X21 hx (hb Y e25_32) (q := 33) rfl (z := 1) rfl ?_
    refine endP X21 hlk (fun h => by rw [hret] at h; cases h) (lastN X21 hx (t := .boolean) (z' := (1 : Int32)) hret (by simp) (by decide) (hb Y e25_33)) ?_ (by decide) (by decide)
    rw [e21]
    exact ⟨(1 : Int32), rfl, N21, rfl, (Or.inl ⟨ext_all Hn1 (Hn2.trans hl2.symm) (fun j hj => q1 j (by omega)), rfl⟩)⟩
   | succ k21 ih =>
    intro i21 T21 L21  hk21 X21 e21 N21 q1
    have hi21 : i21 < n := by omega
    have nb21 : i21 < 2147483648 := by omega
    obtain ⟨ya21, hya21⟩ : ∃ y, y = cs.getD i21 0 := ⟨_, rfl⟩
    have ga21 : (cs.map lo8V).getD i21 (.int 0) = .int (StrChars.lo8 ya21) := by rw [hya21]; exact map_getD Hn1 (show i21 < n from by omega)
    have ra21 := rng_of Hr1 Hn1 (show i21 < n from by omega) hya21
    obtain ⟨yb21, hyb21⟩ : ∃ y, y = ds.getD i21 0 := ⟨_, rfl⟩
    have gb21 : (ds.map lo8V).getD i21 (.int 0) = .int (StrChars.lo8 yb21) := by rw [hyb21]; exact map_getD Hn2 (show i21 < m2 from by omega)
    have rb21 := rng_of Hr2 Hn2 (show i21 < m2 from by omega) hyb21
    show Go _ _ _ _ (T21.setTop (mkF m 9 #[vr t1, vr t2, vi (Int32.ofNat i21)] []))
    refine iL X21 hx (hb Y e25_9) (q := 10) rfl rfl ?_
    refine aL X21 hx (hb Y e25_10) (q := 11) rfl rfl rfl ?_
    refine g_len X21 hx hZ0 PB1 e21 (hb Y e25_11) (q := 12) rfl ?_
    refine icN X21 hx (hb Y e25_12) (q := 15) rfl (tlt (on_lt hi21 (show n < 2147483648 from by omega))).2.1 ?_
    refine aL X21 hx (hb Y e25_15) (q := 16) rfl rfl rfl ?_
    refine iL X21 hx (hb Y e25_16) (q := 17) rfl rfl ?_
    refine g_ldB X21 hx hZ0 PB1 (i := i21) (on_clamp nb21) (on_nn nb21) (on_lt hi21 (show n < 2147483648 from by omega)) (v := (.int (StrChars.lo8 ya21))) ga21 e21 (hb Y e25_17) (q := 18) rfl ?_
    refine aL X21 hx (hb Y e25_18) (q := 19) rfl rfl rfl ?_
    refine iL X21 hx (hb Y e25_19) (q := 20) rfl rfl ?_
    refine g_ldB X21 hx hZ0 PB2 (i := i21) (on_clamp nb21) (on_nn nb21) (on_lt (show i21 < m2 from by omega) (show m2 < 2147483648 from by omega)) (v := (.int (StrChars.lo8 yb21))) gb21 e21 (hb Y e25_20) (q := 21) rfl ?_
    by_cases hc22 : (StrChars.lo8 ya21) = (StrChars.lo8 yb21)
    ·refine icY X21 hx (hb Y e25_21) (q := 26) (by decide) (by decide) (teq hc22).1 ?_
     refine g_iinc X21 hx (hb Y e25_26) (q := 29) rfl rfl (z := (Int32.ofNat (i21 + 1))) (on_add (i21) 1) (Ls' := #[vr t1, vr t2, vi (Int32.ofNat (i21 + 1))]) rfl ?_
     refine g_goto X21 hx (hb Y e25_29) (q := 9) (by decide) (by decide) ?_
     exact ih (i21 + 1) _ _  (by omega) X21 e21  N21 (all_step (P := fun j => cs.getD j 0 = ds.getD j 0) q1 (by rw [← hya21, ← hyb21]; exact lo8_inj ra21.1 ra21.2 rb21.1 rb21.2 hc22))
    ·refine icN X21 hx (hb Y e25_21) (q := 24) rfl (feq hc22).1 ?_
     refine cI X21 hx (hb Y e25_24) (q := 25) rfl (z := 0) rfl ?_
     refine endP X21 hlk (fun h => by rw [hret] at h; cases h) (lastN X21 hx (t := .boolean) (z' := (0 : Int32)) hret (by simp) (by decide) (hb Y e25_25)) ?_ (by decide) (by decide)
     rw [e21]
     exact ⟨(0 : Int32), rfl, N21, rfl, (Or.inr ⟨fun z => hc22 (by rw [hya21, hyb21, z]), rfl⟩)⟩
  exact lp21 (n - 0) 0 _ _  (by omega) X0 e0  N0 (fun _ q => absurd q (Nat.not_lt_zero _))
 ·have hq : ¬ Int32.ofNat n = Int32.ofNat m2 := fun z => hl2 (by have := congrArg Int32.toInt z; rw [on_int (by omega), on_int (by omega)] at this; omega)
  show Go _ _ _ _ (T0.setTop (mkF m 4 #[vr t1, vr t2, uS] [(.int (Int32.ofNat m2)), (.int (Int32.ofNat n))]))
  refine icY X0 hx (hb Y e25_4) (q := 34) (by decide) (by decide) (feq hq).2 ?_
  refine cI X0 hx (hb Y e25_34) (q := 35) rfl (z := 0) rfl ?_
  refine endP X0 hlk (fun h => by rw [hret] at h; cases h) (lastN X0 hx (t := .boolean) (z' := (0 : Int32)) hret (by simp) (by decide) (hb Y e25_35)) ?_ (by decide) (by decide)
  rw [e0]
  exact ⟨(0 : Int32), rfl, N0, rfl, (Or.inr ⟨fun z => hl2 (by rw [← Hn1, ← Hn2, z]), rfl⟩)⟩
theorem e15_0 : Dc kC33 0 (.aload_n 0) 1 := by decide +kernel
theorem e15_1 : Dc kC33 1 (.aload_n 1) 1 := by decide +kernel
theorem e15_2 : Dc kC33 2 (.if_acmp .ne 5) 3 := by decide +kernel
theorem e15_5 : Dc kC33 5 (.iconst 1) 1 := by decide +kernel
theorem e15_6 : Dc kC33 6 .ireturn 1 := by decide +kernel
theorem e15_7 : Dc kC33 7 (.aload_n 1) 1 := by decide +kernel
theorem e15_8 : Dc kC33 8 (.instanceof 10) 3 := by decide +kernel
theorem wd197 (hw : HW a0 Z) : BW a0 Z (.classLink sT0 (10 : Nat) sT0) := wat hw 197 rfl
theorem e15_11 : Dc kC33 11 (.ifCond .eq 43) 3 := by decide +kernel
theorem e15_14 : Dc kC33 14 (.aload_n 1) 1 := by decide +kernel
theorem e15_15 : Dc kC33 15 (.checkcast 10) 3 := by decide +kernel
theorem e15_18 : Dc kC33 18 (.astore_n 2) 1 := by decide +kernel
theorem e15_19 : Dc kC33 19 (.getstatic 38) 3 := by decide +kernel
theorem e15_22 : Dc kC33 22 (.ifCond .eq 14) 3 := by decide +kernel
theorem e15_25 : Dc kC33 25 (.aload_n 0) 1 := by decide +kernel
theorem e15_26 : Dc kC33 26 (.getfield 15) 3 := by decide +kernel
theorem e15_29 : Dc kC33 29 (.aload_n 2) 1 := by decide +kernel
theorem e15_30 : Dc kC33 30 (.getfield 15) 3 := by decide +kernel
theorem e15_33 : Dc kC33 33 (.if_icmp .ne 21) 3 := by decide +kernel
theorem e15_36 : Dc kC33 36 (.aload_n 0) 1 := by decide +kernel
theorem e15_37 : Dc kC33 37 (.getfield 9) 3 := by decide +kernel
theorem e15_40 : Dc kC33 40 (.aload_n 2) 1 := by decide +kernel
theorem e15_41 : Dc kC33 41 (.getfield 9) 3 := by decide +kernel
theorem e15_44 : Dc kC33 44 (.invokestatic 541) 3 := by decide +kernel
theorem wd200 (hw : HW a0 Z) : BW a0 Z (.code ⟨sT5, "equals", "([B[B)Z"⟩ kC24 (3 : Nat) (Option.some Jvm.ClassFile.FieldType.boolean)) := wat hw 200 rfl
theorem pd14 : parseMethodDescriptor "([B[B)Z" = some ⟨[(.array .byte), (.array .byte)], some .boolean⟩ := by decide +kernel
theorem wd198 (hw : HW a0 Z) : BW a0 Z (.methodLink sT0 (541 : Nat) ⟨sT5, "equals", "([B[B)Z"⟩) := wat hw 198 rfl
theorem wd199 (hw : HW a0 Z) : BW a0 Z (.static ⟨sT5, "equals", "([B[B)Z"⟩) := wat hw 199 rfl
theorem e15_47 : Dc kC33 47 (.ifCond .eq 7) 3 := by decide +kernel
theorem e15_50 : Dc kC33 50 (.iconst 1) 1 := by decide +kernel
theorem e15_51 : Dc kC33 51 (.goto 4) 3 := by decide +kernel
theorem e15_55 : Dc kC33 55 .ireturn 1 := by decide +kernel
theorem e15_54 : Dc kC33 54 (.iconst 0) 1 := by decide +kernel
def Q_seqg (Z : State) (zC : Int32) (vF : Value) (a1 t1 : Addr) (k1 : ClassId) (cs : List Int32) (n : Nat) (a2 t2 : Addr) (k2 : ClassId) (ds : List Int32) (m2 : Nat) (h0 : Heap) (v : Option Value) (h : Heap) (L : List Loc) : Prop := ∃ (bb : Int32), v = some (.int bb) ∧ Fr Z.heap.size L ∧ h = h0 ∧ (BIT bb (cs = ds))
theorem rm_seqg (l : Launch) (Z : State) (a0 : Array Value) (hw : HW a0 Z) (zC : Int32) (vF : Value) (G : GB l a0 Z zC vF) (a1 t1 : Addr) (k1 : ClassId) (cs : List Int32) (n : Nat) (a2 t2 : Addr) (k2 : ClassId) (ds : List Int32) (m2 : Nat) (h0 : Heap) (O0 : Old Z Z.heap.size h0) (Pe1 : Exa Z h0 a1 sT0) (Pc1 : Fld Z h0 a1 sT0 "coder" "B" (iv 0)) (Pv1 : Fld Z h0 a1 sT0 "value" "[B" (.ref t1)) (PB1 : Arv Z h0 t1 k1 .byte (Int32.ofNat n) (cs.map lo8V) (.int 0)) (Hn1 : (cs.length = n)) (Hm1 : (n ≤ 6)) (Hr1 : (ALL cs)) (Pe2 : Exa Z h0 a2 sT0) (Pc2 : Fld Z h0 a2 sT0 "coder" "B" (iv 0)) (Pv2 : Fld Z h0 a2 sT0 "value" "[B" (.ref t2)) (PB2 : Arv Z h0 t2 k2 .byte (Int32.ofNat m2) (ds.map lo8V) (.int 0)) (Hn2 : (ds.length = m2)) (Hm2 : (m2 ≤ 6)) (Hr2 : (ALL ds)) :
    Con l Z (⟨sT0, "equals", "(Ljava/lang/Object;)Z"⟩ : MethodName) kC33 3 (some .boolean) ({ frames := 1, cells := 0, slots := 0, locals := 14 } : Room) #[(.ref a1), (.ref a2)] h0 (Q_seqg Z zC vF a1 t1 k1 cs n a2 t2 k2 ds m2 h0) := by
 obtain ⟨SC, PC, rF, SF⟩ := id G
 refine Con.intro (plainFor_of_name pn0) ?_
 intro p e s m below meth c T0 X0 hx Y hml hown0 hnm hret hlk hZ0 e0
 have N0 := Fr.nil Z.heap.size
 refine castGo (g' := mkF m 0 #[vr a1, vr a2, uS] []) (by first | rfl | (simp [entryFrame, mkF, argsToLocals, Value.category]; done)) ?_
 show Go _ _ _ _ (T0.setTop (mkF m 0 #[vr a1, vr a2, uS] []))
 refine aL X0 hx (hb Y e15_0) (q := 1) rfl rfl rfl ?_
 refine aL X0 hx (hb Y e15_1) (q := 2) rfl rfl rfl ?_
 rcases Classical.em (a1 = a2) with hq | hq
 ·show Go _ _ _ _ (T0.setTop (mkF m 2 #[vr a1, vr a2, uS] [(.ref a2), (.ref a1)]))
  refine g_acmp X0 hx (hb Y e15_2) (q := 5) rfl rfl (same := true) (decide_eq_true (congrArg Value.ref hq)) (by decide) (by decide) ?_
  refine cI X0 hx (hb Y e15_5) (q := 6) rfl (z := 1) rfl ?_
  refine endP X0 hlk (fun h => by rw [hret] at h; cases h) (lastN X0 hx (t := .boolean) (z' := (1 : Int32)) hret (by simp) (by decide) (hb Y e15_6)) ?_ (by decide) (by decide)
  rw [e0]
  exact ⟨(1 : Int32), rfl, N0, rfl, (Or.inl ⟨same_str hq Pv1 Pv2 PB1 PB2 Hn1 Hn2 (by omega) (by omega) Hr1 Hr2, rfl⟩)⟩
 ·show Go _ _ _ _ (T0.setTop (mkF m 2 #[vr a1, vr a2, uS] [(.ref a2), (.ref a1)]))
  refine g_acmp X0 hx (hb Y e15_2) (q := 7) rfl rfl (same := false) (decide_eq_false fun q => hq (Value.ref.inj q)) (by decide) (by decide) ?_
  refine aL X0 hx (hb Y e15_7) (q := 8) rfl rfl rfl ?_
  refine g_insY X0 hx hZ0 hown0 (wd197 hw) (Ins.self Pe2) e0 (hb Y e15_8) (q := 11) rfl ?_
  intro T21 X21 e21
  refine ifN X21 hx (hb Y e15_11) (q := 14) rfl (by decide) ?_
  refine aL X21 hx (hb Y e15_14) (q := 15) rfl rfl rfl ?_
  refine g_cast X21 hx hZ0 hown0 (wd197 hw) (Ins.self Pe2) e21 (hb Y e15_15) (q := 18) rfl ?_
  intro T22 X22 e22
  refine sA X22 hx (hb Y e15_18) (q := 19) rfl rfl (Ls' := #[vr a1, vr a2, vr a2]) rfl ?_
  refine g_getS X22 hx hZ0 hown0 (host := "") (Or.inl (wd59 hw)) Via.refl (SC.ext O0.2) e22 (hb Y e15_19) (q := 22) rfl ?_
  intro T23 X23 e23
  refine ifN X23 hx (hb Y e15_22) (q := 25) rfl ((if0 _ _).trans (feq PC).1) ?_
  refine aL X23 hx (hb Y e15_25) (q := 26) rfl rfl rfl ?_
  refine g_getF X23 hx hZ0 hown0 (host := "") (Or.inl (wd60 hw)) Via.refl Pc1 e23 (hb Y e15_26) (q := 29) rfl ?_
  intro T24 X24 e24
  refine aL X24 hx (hb Y e15_29) (q := 30) rfl rfl rfl ?_
  refine g_getF X24 hx hZ0 hown0 (host := "") (Or.inl (wd60 hw)) Via.refl Pc2 e24 (hb Y e15_30) (q := 33) rfl ?_
  intro T25 X25 e25
  refine icN X25 hx (hb Y e15_33) (q := 36) rfl (by decide) ?_
  refine aL X25 hx (hb Y e15_36) (q := 37) rfl rfl rfl ?_
  refine g_getF X25 hx hZ0 hown0 (host := "") (Or.inl (wd53 hw)) Via.refl Pv1 e25 (hb Y e15_37) (q := 40) rfl ?_
  intro T26 X26 e26
  refine aL X26 hx (hb Y e15_40) (q := 41) rfl rfl rfl ?_
  refine g_getF X26 hx hZ0 hown0 (host := "") (Or.inl (wd53 hw)) Via.refl Pv2 e26 (hb Y e15_41) (q := 44) rfl ?_
  intro T27 X27 e27
  refine g_st X27 hx hZ0 hown0 (wd198 hw) (wd199 hw) (wd99 hw) (wd200 hw) (by decide) e27 (Con.back (W := 0) (rm_leqg l Z a0 hw zC vF G t1 k1 cs n t2 k2 ds m2 h0 O0 PB1 Hn1 Hm1 Hr1 PB2 Hn2 Hm2 Hr2) hZ0 (wd200 hw) (wd99 hw) (by decide) (by decide)) (by rw [hml]; rfl) (lenOf pd14 rfl) rfl (Nat.le_of_eq rfl) (hb Y e15_44) (q := 47) rfl (by decide) (by decide) ?_
  intro v28 T28 L28 X28 Q28
  obtain ⟨bb_28, rfl, Nq28, e28, q28_0⟩ := Q28
  have N28 := Fr.app N0 Nq28
  show Go _ _ _ _ (T28.setTop (mkF m 47 _ [(.int bb_28)]))
  rcases q28_0 with ⟨hE, rfl⟩ | ⟨hE, rfl⟩
  ·show Go _ _ _ _ (T28.setTop (mkF m 47 #[vr a1, vr a2, vr a2] [(iv 1)]))
   refine ifN X28 hx (hb Y e15_47) (q := 50) rfl (by decide) ?_
   refine cI X28 hx (hb Y e15_50) (q := 51) rfl (z := 1) rfl ?_
   refine g_goto X28 hx (hb Y e15_51) (q := 55) (by decide) (by decide) ?_
   refine endP X28 hlk (fun h => by rw [hret] at h; cases h) (lastN X28 hx (t := .boolean) (z' := (1 : Int32)) hret (by simp) (by decide) (hb Y e15_55)) ?_ (by decide) (by decide)
   rw [e28]
   exact ⟨(1 : Int32), rfl, N28, rfl, (Or.inl ⟨hE, rfl⟩)⟩
  ·show Go _ _ _ _ (T28.setTop (mkF m 47 #[vr a1, vr a2, vr a2] [(iv 0)]))
   refine ifY X28 hx (hb Y e15_47) (q := 54) (by decide) (by decide) (by decide) ?_
   refine cI X28 hx (hb Y e15_54) (q := 55) rfl (z := 0) rfl ?_
   refine endP X28 hlk (fun h => by rw [hret] at h; cases h) (lastN X28 hx (t := .boolean) (z' := (0 : Int32)) hret (by simp) (by decide) (hb Y e15_55)) ?_ (by decide) (by decide)
   rw [e28]
   exact ⟨(0 : Int32), rfl, N28, rfl, (Or.inr ⟨hE, rfl⟩)⟩
theorem e30_0 : Dc kC40 0 (.aload_n 2) 1 := by decide +kernel
theorem e30_1 : Dc kC40 1 (.iconst 0) 1 := by decide +kernel
theorem e30_2 : Dc kC40 2 .baload 1 := by decide +kernel
theorem e30_3 : Dc kC40 3 (.istore 5) 2 := by decide +kernel
theorem e30_5 : Dc kC40 5 (.iload_n 1) 1 := by decide +kernel
theorem e30_6 : Dc kC40 6 (.iload_n 3) 1 := by decide +kernel
theorem e30_7 : Dc kC40 7 .isub 1 := by decide +kernel
theorem e30_8 : Dc kC40 8 (.istore 6) 2 := by decide +kernel
theorem e30_10 : Dc kC40 10 (.iload 4) 2 := by decide +kernel
theorem e30_12 : Dc kC40 12 (.istore 7) 2 := by decide +kernel
theorem e30_14 : Dc kC40 14 (.iload 7) 2 := by decide +kernel
theorem e30_16 : Dc kC40 16 (.iload 6) 2 := by decide +kernel
theorem e30_18 : Dc kC40 18 (.if_icmp .gt 101) 3 := by decide +kernel
theorem e30_119 : Dc kC40 119 (.iconst (-1)) 1 := by decide +kernel
theorem e30_120 : Dc kC40 120 .ireturn 1 := by decide +kernel
theorem e30_21 : Dc kC40 21 (.aload_n 0) 1 := by decide +kernel
theorem e30_22 : Dc kC40 22 (.iload 7) 2 := by decide +kernel
theorem e30_24 : Dc kC40 24 .baload 1 := by decide +kernel
theorem e30_25 : Dc kC40 25 (.iload 5) 2 := by decide +kernel
theorem e30_27 : Dc kC40 27 (.if_icmp .eq 25) 3 := by decide +kernel
theorem e30_52 : Dc kC40 52 (.iload 7) 2 := by decide +kernel
theorem e30_54 : Dc kC40 54 (.iload 6) 2 := by decide +kernel
theorem e30_56 : Dc kC40 56 (.if_icmp .gt 57) 3 := by decide +kernel
theorem e30_59 : Dc kC40 59 (.iload 7) 2 := by decide +kernel
theorem e30_61 : Dc kC40 61 (.iconst 1) 1 := by decide +kernel
theorem e30_62 : Dc kC40 62 .iadd 1 := by decide +kernel
theorem e30_63 : Dc kC40 63 (.istore 8) 2 := by decide +kernel
theorem e30_65 : Dc kC40 65 (.iload 8) 2 := by decide +kernel
theorem e30_67 : Dc kC40 67 (.iload_n 3) 1 := by decide +kernel
theorem e30_68 : Dc kC40 68 .iadd 1 := by decide +kernel
theorem e30_69 : Dc kC40 69 (.iconst 1) 1 := by decide +kernel
theorem e30_70 : Dc kC40 70 .isub 1 := by decide +kernel
theorem e30_71 : Dc kC40 71 (.istore 9) 2 := by decide +kernel
theorem e30_73 : Dc kC40 73 (.iconst 1) 1 := by decide +kernel
theorem e30_74 : Dc kC40 74 (.istore 10) 2 := by decide +kernel
theorem e30_76 : Dc kC40 76 (.iload 8) 2 := by decide +kernel
theorem e30_78 : Dc kC40 78 (.iload 9) 2 := by decide +kernel
theorem e30_80 : Dc kC40 80 (.if_icmp .ge 23) 3 := by decide +kernel
theorem e30_83 : Dc kC40 83 (.aload_n 0) 1 := by decide +kernel
theorem e30_84 : Dc kC40 84 (.iload 8) 2 := by decide +kernel
theorem e30_86 : Dc kC40 86 .baload 1 := by decide +kernel
theorem e30_87 : Dc kC40 87 (.aload_n 2) 1 := by decide +kernel
theorem e30_88 : Dc kC40 88 (.iload 10) 2 := by decide +kernel
theorem e30_90 : Dc kC40 90 .baload 1 := by decide +kernel
theorem e30_91 : Dc kC40 91 (.if_icmp .ne 12) 3 := by decide +kernel
theorem e30_94 : Dc kC40 94 (.iinc 8 1) 3 := by decide +kernel
theorem e30_97 : Dc kC40 97 (.iinc 10 1) 3 := by decide +kernel
theorem e30_100 : Dc kC40 100 (.goto (-24)) 3 := by decide +kernel
theorem e30_103 : Dc kC40 103 (.iload 8) 2 := by decide +kernel
theorem e30_105 : Dc kC40 105 (.iload 9) 2 := by decide +kernel
theorem e30_107 : Dc kC40 107 (.if_icmp .ne 6) 3 := by decide +kernel
theorem e30_110 : Dc kC40 110 (.iload 7) 2 := by decide +kernel
theorem e30_112 : Dc kC40 112 .ireturn 1 := by decide +kernel
theorem e30_113 : Dc kC40 113 (.iinc 7 1) 3 := by decide +kernel
theorem e30_116 : Dc kC40 116 (.goto (-102)) 3 := by decide +kernel
theorem e30_30 : Dc kC40 30 (.iinc 7 1) 3 := by decide +kernel
theorem e30_33 : Dc kC40 33 (.iload 7) 2 := by decide +kernel
theorem e30_35 : Dc kC40 35 (.iload 6) 2 := by decide +kernel
theorem e30_37 : Dc kC40 37 (.if_icmp .gt 15) 3 := by decide +kernel
theorem e30_40 : Dc kC40 40 (.aload_n 0) 1 := by decide +kernel
theorem e30_41 : Dc kC40 41 (.iload 7) 2 := by decide +kernel
theorem e30_43 : Dc kC40 43 .baload 1 := by decide +kernel
theorem e30_44 : Dc kC40 44 (.iload 5) 2 := by decide +kernel
theorem e30_46 : Dc kC40 46 (.if_icmp .eq 6) 3 := by decide +kernel
theorem e30_49 : Dc kC40 49 (.goto (-19)) 3 := by decide +kernel
def Q_ix5 (Z : State) (zC : Int32) (vF : Value) (t : Addr) (kb : ClassId) (cs : List Int32) (n : Nat) (t2 : Addr) (k2 : ClassId) (h0 : Heap) (v : Option Value) (h : Heap) (L : List Loc) : Prop := ∃ (ix : Int32), v = some (.int ix) ∧ Fr Z.heap.size L ∧ h = h0 ∧ (IXS cs ix)
theorem rm_ix5 (l : Launch) (Z : State) (a0 : Array Value) (hw : HW a0 Z) (zC : Int32) (vF : Value) (G : GB l a0 Z zC vF) (t : Addr) (kb : ClassId) (cs : List Int32) (n : Nat) (t2 : Addr) (k2 : ClassId) (h0 : Heap) (O0 : Old Z Z.heap.size h0) (PB : Arv Z h0 t kb .byte (Int32.ofNat n) (cs.map lo8V) (.int 0)) (Hn : (cs.length = n)) (Hm : (n ≤ 6)) (Hr : (ALL cs)) (P2 : Arv Z h0 t2 k2 .byte (2 : Int32) [(iv 47), (iv 47)] (.int 0)) (H1 : (1 ≤ n)) :
    Con l Z (⟨"java/lang/StringLatin1", "indexOf", "([BI[BII)I"⟩ : MethodName) kC40 11 (some .int) ({ frames := 0, cells := 0, slots := 0, locals := 0 } : Room) #[(.ref t), (.int (Int32.ofNat n)), (.ref t2), (iv 2), (iv 0)] h0 (Q_ix5 Z zC vF t kb cs n t2 k2 h0) := by
 refine Con.intro (plainFor_of_name pn2) ?_
 intro p e s m below meth c T0 X0 hx Y hml hown0 hnm hret hlk hZ0 e0
 have N0 := Fr.nil Z.heap.size
 refine castGo (g' := mkF m 0 #[vr t, vi (Int32.ofNat n), vr t2, vi 2, vi 0, uS, uS, uS, uS, uS, uS] []) (by first | rfl | (simp [entryFrame, mkF, argsToLocals, Value.category]; done)) ?_
 show Go _ _ _ _ (T0.setTop (mkF m 0 #[vr t, vi (Int32.ofNat n), vr t2, vi 2, vi 0, uS, uS, uS, uS, uS, uS] []))
 refine aL X0 hx (hb Y e30_0) (q := 1) rfl rfl rfl ?_
 refine cI X0 hx (hb Y e30_1) (q := 2) rfl (z := 0) rfl ?_
 refine g_ldB X0 hx hZ0 P2 (i := 0) (by decide) (by decide) (by decide) (v := (iv 47)) rfl e0 (hb Y e30_2) (q := 3) rfl ?_
 refine sIw X0 hx (hb Y e30_3) (q := 5) rfl (Ls' := #[vr t, vi (Int32.ofNat n), vr t2, vi 2, vi 0, vi 47, uS, uS, uS, uS, uS]) rfl ?_
 refine iL X0 hx (hb Y e30_5) (q := 6) rfl rfl ?_
 refine iL X0 hx (hb Y e30_6) (q := 7) rfl rfl ?_
 rcases Nat.lt_or_ge n 2 with hn2 | hn2
 ·show Go _ _ _ _ (T0.setTop (mkF m 7 #[vr t, vi (Int32.ofNat n), vr t2, vi 2, vi 0, vi 47, uS, uS, uS, uS, uS] [(iv 2), (.int (Int32.ofNat n))]))
  refine g_isub X0 hx (hb Y e30_7) (q := 8) rfl rfl ?_
  refine castGo (g' := mkF m 8 #[vr t, vi (Int32.ofNat n), vr t2, vi 2, vi 0, vi 47, uS, uS, uS, uS, uS] [(.int (-1 : Int32))]) (by rw [(show (-1 : Int32) = ((Int32.ofNat n) - (2 : Int32)) from by rw [show n = 1 by omega]; rfl)]) ?_
  refine sIw X0 hx (hb Y e30_8) (q := 10) rfl (Ls' := #[vr t, vi (Int32.ofNat n), vr t2, vi 2, vi 0, vi 47, vi (-1 : Int32), uS, uS, uS, uS]) rfl ?_
  refine iLw X0 hx (hb Y e30_10) (q := 12) rfl rfl ?_
  refine sIw X0 hx (hb Y e30_12) (q := 14) rfl (Ls' := #[vr t, vi (Int32.ofNat n), vr t2, vi 2, vi 0, vi 47, vi (-1 : Int32), vi 0, uS, uS, uS]) rfl ?_
  refine iLw X0 hx (hb Y e30_14) (q := 16) rfl rfl ?_
  refine iLw X0 hx (hb Y e30_16) (q := 18) rfl rfl ?_
  refine icY X0 hx (hb Y e30_18) (q := 119) (by decide) (by decide) (by decide) ?_
  refine cI X0 hx (hb Y e30_119) (q := 120) rfl (z := -1) rfl ?_
  refine endP X0 hlk (fun h => by rw [hret] at h; cases h) (lastI X0 hx hret (hb Y e30_120)) ?_ (by decide) (by decide)
  rw [e0]
  exact ⟨(-1 : Int32), rfl, N0, rfl, (Or.inr ⟨fun ⟨j, z1, z2⟩ => absurd z1 (by omega), rfl⟩)⟩
 ·show Go _ _ _ _ (T0.setTop (mkF m 7 #[vr t, vi (Int32.ofNat n), vr t2, vi 2, vi 0, vi 47, uS, uS, uS, uS, uS] [(iv 2), (.int (Int32.ofNat n))]))
  refine g_isub X0 hx (hb Y e30_7) (q := 8) rfl (z := (Int32.ofNat (n - 2))) (on_sub (show 2 ≤ n from by omega) (show n < 2147483648 from by omega)) ?_
  refine sIw X0 hx (hb Y e30_8) (q := 10) rfl (Ls' := #[vr t, vi (Int32.ofNat n), vr t2, vi 2, vi 0, vi 47, vi (Int32.ofNat (n - 2)), uS, uS, uS, uS]) rfl ?_
  refine iLw X0 hx (hb Y e30_10) (q := 12) rfl rfl ?_
  refine sIw X0 hx (hb Y e30_12) (q := 14) rfl (Ls' := #[vr t, vi (Int32.ofNat n), vr t2, vi 2, vi 0, vi 47, vi (Int32.ofNat (n - 2)), vi 0, uS, uS, uS]) rfl ?_
  have lp21 : ∀ M21 : Nat, (∀ (i21a : Nat) (T21 : State) (L21 : List Loc) (sl21a_8 : Slot) (sl21a_9 : Slot) (sl21a_10 : Slot), 2 * (n + 2 - i21a) + 2 ≤ M21 → Stand p l e ({ frames := 0, cells := 0, slots := 0, locals := 0 } : Room) s m #[(.ref t), (.int (Int32.ofNat n)), (.ref t2), (iv 2), (iv 0)] below meth c T21 L21 0 0 → T21.heap = h0 → Fr Z.heap.size L21 → (sl21a_8 = .unset ∨ ∃ x : Int32, sl21a_8 = vi x) → (sl21a_9 = .unset ∨ ∃ x : Int32, sl21a_9 = vi x) → (sl21a_10 = .unset ∨ ∃ x : Int32, sl21a_10 = vi x) → (i21a ≤ n) → (∀ j, j < i21a → j + 1 < n → ¬ DS cs j) → Go p.tables e below (PEnd s (Q_ix5 Z zC vF t kb cs n t2 k2 h0) ({ frames := 0, cells := 0, slots := 0, locals := 0 } : Room).cells ({ frames := 0, cells := 0, slots := 0, locals := 0 } : Room).slots) (T21.setTop (mkF m 14 #[vr t, vi (Int32.ofNat n), vr t2, vi 2, vi 0, vi 47, vi (Int32.ofNat (n - 2)), vi (Int32.ofNat i21a), sl21a_8, sl21a_9, sl21a_10] []))) ∧ (∀ (i21b : Nat) (T21 : State) (L21 : List Loc) (sl21b_8 : Slot) (sl21b_9 : Slot) (sl21b_10 : Slot), 2 * (n + 2 - i21b) + 1 ≤ M21 → Stand p l e ({ frames := 0, cells := 0, slots := 0, locals := 0 } : Room) s m #[(.ref t), (.int (Int32.ofNat n)), (.ref t2), (iv 2), (iv 0)] below meth c T21 L21 0 0 → T21.heap = h0 → Fr Z.heap.size L21 → (sl21b_8 = .unset ∨ ∃ x : Int32, sl21b_8 = vi x) → (sl21b_9 = .unset ∨ ∃ x : Int32, sl21b_9 = vi x) → (sl21b_10 = .unset ∨ ∃ x : Int32, sl21b_10 = vi x) → (i21b + 2 ≤ n) → (∀ j, j < i21b → j + 1 < n → ¬ DS cs j) → (¬ cs.getD i21b 0 = 47) → Go p.tables e below (PEnd s (Q_ix5 Z zC vF t kb cs n t2 k2 h0) ({ frames := 0, cells := 0, slots := 0, locals := 0 } : Room).cells ({ frames := 0, cells := 0, slots := 0, locals := 0 } : Room).slots) (T21.setTop (mkF m 30 #[vr t, vi (Int32.ofNat n), vr t2, vi 2, vi 0, vi 47, vi (Int32.ofNat (n - 2)), vi (Int32.ofNat i21b), sl21b_8, sl21b_9, sl21b_10] []))) := by
   intro M21
   induction M21 with
   | zero => exact ⟨(by intro i21a T21 L21 sl21a_8 sl21a_9 sl21a_10 hM21 X21 e21 N21 hs21a_8 hs21a_9 hs21a_10 b1 q1; exact absurd hM21 (by omega)), (by intro i21b T21 L21 sl21b_8 sl21b_9 sl21b_10 hM21 X21 e21 N21 hs21b_8 hs21b_9 hs21b_10 b2 q2 d2; exact absurd hM21 (by omega))⟩
   | succ M21 ih =>
    refine ⟨?_, ?_⟩
    ·intro i21a T21 L21 sl21a_8 sl21a_9 sl21a_10 hM21 X21 e21 N21 hs21a_8 hs21a_9 hs21a_10 b1 q1
     show Go _ _ _ _ (T21.setTop (mkF m 14 #[vr t, vi (Int32.ofNat n), vr t2, vi 2, vi 0, vi 47, vi (Int32.ofNat (n - 2)), vi (Int32.ofNat i21a), sl21a_8, sl21a_9, sl21a_10] []))
     refine iLw X21 hx (hb Y e30_14) (q := 16) rfl rfl ?_
     refine iLw X21 hx (hb Y e30_16) (q := 18) rfl rfl ?_
     rcases Nat.lt_or_ge (n - 2) i21a with hg22 | hg22
     ·show Go _ _ _ _ (T21.setTop (mkF m 18 #[vr t, vi (Int32.ofNat n), vr t2, vi 2, vi 0, vi 47, vi (Int32.ofNat (n - 2)), vi (Int32.ofNat i21a), sl21a_8, sl21a_9, sl21a_10] [(.int (Int32.ofNat (n - 2))), (.int (Int32.ofNat i21a))]))
      refine icY X21 hx (hb Y e30_18) (q := 119) (by decide) (by decide) (tlt (on_lt (show (n - 2) < i21a from by omega) (show i21a < 2147483648 from by omega))).2.2.1 ?_
      refine cI X21 hx (hb Y e30_119) (q := 120) rfl (z := -1) rfl ?_
      refine endP X21 hlk (fun h => by rw [hret] at h; cases h) (lastI X21 hx hret (hb Y e30_120)) ?_ (by decide) (by decide)
      rw [e21]
      exact ⟨(-1 : Int32), rfl, N21, rfl, (Or.inr ⟨fun ⟨j, z1, z2⟩ => q1 j (by omega) (by omega) z2, rfl⟩)⟩
     ·show Go _ _ _ _ (T21.setTop (mkF m 18 #[vr t, vi (Int32.ofNat n), vr t2, vi 2, vi 0, vi 47, vi (Int32.ofNat (n - 2)), vi (Int32.ofNat i21a), sl21a_8, sl21a_9, sl21a_10] [(.int (Int32.ofNat (n - 2))), (.int (Int32.ofNat i21a))]))
      refine icN X21 hx (hb Y e30_18) (q := 21) rfl (flt (on_le (show i21a ≤ (n - 2) from by omega) (show (n - 2) < 2147483648 from by omega))).2.2.1 ?_
      refine aL X21 hx (hb Y e30_21) (q := 22) rfl rfl rfl ?_
      refine iLw X21 hx (hb Y e30_22) (q := 24) rfl rfl ?_
      obtain ⟨y23, hy23⟩ : ∃ y, y = cs.getD i21a 0 := ⟨_, rfl⟩
      have g23 : (cs.map lo8V).getD i21a (.int 0) = .int (StrChars.lo8 y23) := by rw [hy23]; exact map_getD Hn (show i21a < n from by omega)
      have r23 := rng_of Hr Hn (show i21a < n from by omega) hy23
      refine g_ldB X21 hx hZ0 PB (i := i21a) (on_clamp (show i21a < 2147483648 from by omega)) (on_nn (show i21a < 2147483648 from by omega)) (on_lt (show i21a < n from by omega) (show n < 2147483648 from by omega)) (v := (.int (StrChars.lo8 y23))) g23 e21 (hb Y e30_24) (q := 25) rfl ?_
      refine iLw X21 hx (hb Y e30_25) (q := 27) rfl rfl ?_
      by_cases hc24 : (StrChars.lo8 y23) = (47 : Int32)
      ·refine icY X21 hx (hb Y e30_27) (q := 52) (by decide) (by decide) (teq hc24).1 ?_
       refine iLw X21 hx (hb Y e30_52) (q := 54) rfl rfl ?_
       refine iLw X21 hx (hb Y e30_54) (q := 56) rfl rfl ?_
       refine icN X21 hx (hb Y e30_56) (q := 59) rfl (flt (on_le (show i21a ≤ (n - 2) from by omega) (show (n - 2) < 2147483648 from by omega))).2.2.1 ?_
       refine iLw X21 hx (hb Y e30_59) (q := 61) rfl rfl ?_
       refine cI X21 hx (hb Y e30_61) (q := 62) rfl (z := 1) rfl ?_
       refine g_iadd X21 hx (hb Y e30_62) (q := 63) rfl (z := (Int32.ofNat (i21a + 1))) (on_add (i21a) 1) ?_
       refine sIw X21 hx (hb Y e30_63) (q := 65) rfl (Ls' := #[vr t, vi (Int32.ofNat n), vr t2, vi 2, vi 0, vi 47, vi (Int32.ofNat (n - 2)), vi (Int32.ofNat i21a), vi (Int32.ofNat (i21a + 1)), sl21a_9, sl21a_10]) (by rcases hs21a_8 with rfl | ⟨_, rfl⟩ <;> rfl) ?_
       refine iLw X21 hx (hb Y e30_65) (q := 67) rfl rfl ?_
       refine iL X21 hx (hb Y e30_67) (q := 68) rfl rfl ?_
       refine g_iadd X21 hx (hb Y e30_68) (q := 69) rfl (z := (Int32.ofNat (i21a + 1 + 2))) (on_add (i21a + 1) 2) ?_
       refine cI X21 hx (hb Y e30_69) (q := 70) rfl (z := 1) rfl ?_
       refine g_isub X21 hx (hb Y e30_70) (q := 71) rfl (z := (Int32.ofNat (i21a + 1 + 2 - 1))) (on_sub (show 1 ≤ i21a + 1 + 2 from by omega) (show i21a + 1 + 2 < 2147483648 from by omega)) ?_
       refine sIw X21 hx (hb Y e30_71) (q := 73) rfl (Ls' := #[vr t, vi (Int32.ofNat n), vr t2, vi 2, vi 0, vi 47, vi (Int32.ofNat (n - 2)), vi (Int32.ofNat i21a), vi (Int32.ofNat (i21a + 1)), vi (Int32.ofNat (i21a + 1 + 2 - 1)), sl21a_10]) (by rcases hs21a_9 with rfl | ⟨_, rfl⟩ <;> rfl) ?_
       refine cI X21 hx (hb Y e30_73) (q := 74) rfl (z := 1) rfl ?_
       refine sIw X21 hx (hb Y e30_74) (q := 76) rfl (Ls' := #[vr t, vi (Int32.ofNat n), vr t2, vi 2, vi 0, vi 47, vi (Int32.ofNat (n - 2)), vi (Int32.ofNat i21a), vi (Int32.ofNat (i21a + 1)), vi (Int32.ofNat (i21a + 1 + 2 - 1)), vi 1]) (by rcases hs21a_10 with rfl | ⟨_, rfl⟩ <;> rfl) ?_
       refine iLw X21 hx (hb Y e30_76) (q := 78) rfl rfl ?_
       refine iLw X21 hx (hb Y e30_78) (q := 80) rfl rfl ?_
       refine icN X21 hx (hb Y e30_80) (q := 83) rfl (tlt (on_lt (show (i21a + 1) < (i21a + 1 + 2 - 1) from by omega) (show (i21a + 1 + 2 - 1) < 2147483648 from by omega))).2.1 ?_
       refine aL X21 hx (hb Y e30_83) (q := 84) rfl rfl rfl ?_
       refine iLw X21 hx (hb Y e30_84) (q := 86) rfl rfl ?_
       obtain ⟨y25, hy25⟩ : ∃ y, y = cs.getD (i21a + 1) 0 := ⟨_, rfl⟩
       have g25 : (cs.map lo8V).getD (i21a + 1) (.int 0) = .int (StrChars.lo8 y25) := by rw [hy25]; exact map_getD Hn (show (i21a + 1) < n from by omega)
       have r25 := rng_of Hr Hn (show (i21a + 1) < n from by omega) hy25
       refine g_ldB X21 hx hZ0 PB (i := (i21a + 1)) (on_clamp (show (i21a + 1) < 2147483648 from by omega)) (on_nn (show (i21a + 1) < 2147483648 from by omega)) (on_lt (show (i21a + 1) < n from by omega) (show n < 2147483648 from by omega)) (v := (.int (StrChars.lo8 y25))) g25 e21 (hb Y e30_86) (q := 87) rfl ?_
       refine aL X21 hx (hb Y e30_87) (q := 88) rfl rfl rfl ?_
       refine iLw X21 hx (hb Y e30_88) (q := 90) rfl rfl ?_
       refine g_ldB X21 hx hZ0 P2 (i := 1) (by decide) (by decide) (by decide) (v := (iv 47)) rfl e21 (hb Y e30_90) (q := 91) rfl ?_
       by_cases hc26 : (StrChars.lo8 y25) = (47 : Int32)
       ·refine icN X21 hx (hb Y e30_91) (q := 94) rfl (teq hc26).2 ?_
        refine g_iinc X21 hx (hb Y e30_94) (q := 97) rfl rfl (z := (Int32.ofNat (i21a + 1 + 1))) (on_add (i21a + 1) 1) (Ls' := #[vr t, vi (Int32.ofNat n), vr t2, vi 2, vi 0, vi 47, vi (Int32.ofNat (n - 2)), vi (Int32.ofNat i21a), vi (Int32.ofNat (i21a + 1 + 1)), vi (Int32.ofNat (i21a + 1 + 2 - 1)), vi 1]) rfl ?_
        refine g_iinc X21 hx (hb Y e30_97) (q := 100) rfl rfl (z := 2) (by decide) (Ls' := #[vr t, vi (Int32.ofNat n), vr t2, vi 2, vi 0, vi 47, vi (Int32.ofNat (n - 2)), vi (Int32.ofNat i21a), vi (Int32.ofNat (i21a + 1 + 1)), vi (Int32.ofNat (i21a + 1 + 2 - 1)), vi 2]) rfl ?_
        refine g_goto X21 hx (hb Y e30_100) (q := 76) (by decide) (by decide) ?_
        refine iLw X21 hx (hb Y e30_76) (q := 78) rfl rfl ?_
        refine iLw X21 hx (hb Y e30_78) (q := 80) rfl rfl ?_
        refine icY X21 hx (hb Y e30_80) (q := 103) (by decide) (by decide) (flt (on_le (show (i21a + 1 + 2 - 1) ≤ (i21a + 1 + 1) from by omega) (show (i21a + 1 + 1) < 2147483648 from by omega))).2.1 ?_
        refine iLw X21 hx (hb Y e30_103) (q := 105) rfl rfl ?_
        refine iLw X21 hx (hb Y e30_105) (q := 107) rfl rfl ?_
        refine icN X21 hx (hb Y e30_107) (q := 110) rfl (teq (show Int32.ofNat ((i21a + 1 + 1)) = Int32.ofNat ((i21a + 1 + 2 - 1)) from congrArg Int32.ofNat (show (i21a + 1 + 1) = (i21a + 1 + 2 - 1) from by omega))).2 ?_
        refine iLw X21 hx (hb Y e30_110) (q := 112) rfl rfl ?_
        refine endP X21 hlk (fun h => by rw [hret] at h; cases h) (lastI X21 hx hret (hb Y e30_112)) ?_ (by decide) (by decide)
        rw [e21]
        exact ⟨(Int32.ofNat i21a), rfl, N21, rfl, (Or.inl ⟨⟨i21a, by omega, hy23.symm.trans (l47 r23.1 r23.2 hc24), hy25.symm.trans (l47 r25.1 r25.2 hc26)⟩, on_nn (show i21a < 2147483648 from by omega)⟩)⟩
       ·refine icY X21 hx (hb Y e30_91) (q := 103) (by decide) (by decide) (feq hc26).2 ?_
        refine iLw X21 hx (hb Y e30_103) (q := 105) rfl rfl ?_
        refine iLw X21 hx (hb Y e30_105) (q := 107) rfl rfl ?_
        refine icY X21 hx (hb Y e30_107) (q := 113) (by decide) (by decide) (feq (on_neq (show ¬ (i21a + 1) = (i21a + 1 + 2 - 1) from by omega) (show (i21a + 1) < 2147483648 from by omega) (show (i21a + 1 + 2 - 1) < 2147483648 from by omega))).2 ?_
        refine g_iinc X21 hx (hb Y e30_113) (q := 116) rfl rfl (z := (Int32.ofNat (i21a + 1))) (on_add (i21a) 1) (Ls' := #[vr t, vi (Int32.ofNat n), vr t2, vi 2, vi 0, vi 47, vi (Int32.ofNat (n - 2)), vi (Int32.ofNat (i21a + 1)), vi (Int32.ofNat (i21a + 1)), vi (Int32.ofNat (i21a + 1 + 2 - 1)), vi 1]) rfl ?_
        refine g_goto X21 hx (hb Y e30_116) (q := 14) (by decide) (by decide) ?_
        exact ih.1 (i21a + 1) _ _ (vi (Int32.ofNat (i21a + 1))) (vi (Int32.ofNat (i21a + 1 + 2 - 1))) (vi 1) (show 2 * (n + 2 - (i21a + 1)) + 2 ≤ M21 from by omega) X21 e21 N21 (Or.inr ⟨_, rfl⟩) (Or.inr ⟨_, rfl⟩) (Or.inr ⟨_, rfl⟩) (show (i21a + 1) ≤ n from by omega) (ds_step q1 (fun z => hc26 (by rw [hy25, z.2]; decide)))
      ·refine icN X21 hx (hb Y e30_27) (q := 30) rfl (feq hc24).1 ?_
       exact ih.2 i21a _ _ (sl21a_8) (sl21a_9) (sl21a_10) (show 2 * (n + 2 - i21a) + 1 ≤ M21 from by omega) X21 e21 N21 hs21a_8 hs21a_9 hs21a_10 (show i21a + 2 ≤ n from by omega) q1 (fun z => hc24 (by rw [hy23, z]; decide))
    ·intro i21b T21 L21 sl21b_8 sl21b_9 sl21b_10 hM21 X21 e21 N21 hs21b_8 hs21b_9 hs21b_10 b2 q2 d2
     show Go _ _ _ _ (T21.setTop (mkF m 30 #[vr t, vi (Int32.ofNat n), vr t2, vi 2, vi 0, vi 47, vi (Int32.ofNat (n - 2)), vi (Int32.ofNat i21b), sl21b_8, sl21b_9, sl21b_10] []))
     refine g_iinc X21 hx (hb Y e30_30) (q := 33) rfl rfl (z := (Int32.ofNat (i21b + 1))) (on_add (i21b) 1) (Ls' := #[vr t, vi (Int32.ofNat n), vr t2, vi 2, vi 0, vi 47, vi (Int32.ofNat (n - 2)), vi (Int32.ofNat (i21b + 1)), sl21b_8, sl21b_9, sl21b_10]) rfl ?_
     refine iLw X21 hx (hb Y e30_33) (q := 35) rfl rfl ?_
     refine iLw X21 hx (hb Y e30_35) (q := 37) rfl rfl ?_
     rcases Nat.lt_or_ge (n - 2) (i21b + 1) with hg29 | hg29
     ·show Go _ _ _ _ (T21.setTop (mkF m 37 #[vr t, vi (Int32.ofNat n), vr t2, vi 2, vi 0, vi 47, vi (Int32.ofNat (n - 2)), vi (Int32.ofNat (i21b + 1)), sl21b_8, sl21b_9, sl21b_10] [(.int (Int32.ofNat (n - 2))), (.int (Int32.ofNat (i21b + 1)))]))
      refine icY X21 hx (hb Y e30_37) (q := 52) (by decide) (by decide) (tlt (on_lt (show (n - 2) < (i21b + 1) from by omega) (show (i21b + 1) < 2147483648 from by omega))).2.2.1 ?_
      refine iLw X21 hx (hb Y e30_52) (q := 54) rfl rfl ?_
      refine iLw X21 hx (hb Y e30_54) (q := 56) rfl rfl ?_
      refine icY X21 hx (hb Y e30_56) (q := 113) (by decide) (by decide) (tlt (on_lt (show (n - 2) < (i21b + 1) from by omega) (show (i21b + 1) < 2147483648 from by omega))).2.2.1 ?_
      refine g_iinc X21 hx (hb Y e30_113) (q := 116) rfl rfl (z := (Int32.ofNat (i21b + 1 + 1))) (on_add (i21b + 1) 1) (Ls' := #[vr t, vi (Int32.ofNat n), vr t2, vi 2, vi 0, vi 47, vi (Int32.ofNat (n - 2)), vi (Int32.ofNat (i21b + 1 + 1)), sl21b_8, sl21b_9, sl21b_10]) rfl ?_
      refine g_goto X21 hx (hb Y e30_116) (q := 14) (by decide) (by decide) ?_
      exact ih.1 (i21b + 1 + 1) _ _ (sl21b_8) (sl21b_9) (sl21b_10) (show 2 * (n + 2 - (i21b + 1 + 1)) + 2 ≤ M21 from by omega) X21 e21 N21 hs21b_8 hs21b_9 hs21b_10 (show (i21b + 1 + 1) ≤ n from by omega) (ds_last (ds_step q2 (fun z => d2 z.1)) (by omega))
     ·show Go _ _ _ _ (T21.setTop (mkF m 37 #[vr t, vi (Int32.ofNat n), vr t2, vi 2, vi 0, vi 47, vi (Int32.ofNat (n - 2)), vi (Int32.ofNat (i21b + 1)), sl21b_8, sl21b_9, sl21b_10] [(.int (Int32.ofNat (n - 2))), (.int (Int32.ofNat (i21b + 1)))]))
      refine icN X21 hx (hb Y e30_37) (q := 40) rfl (flt (on_le (show (i21b + 1) ≤ (n - 2) from by omega) (show (n - 2) < 2147483648 from by omega))).2.2.1 ?_
      refine aL X21 hx (hb Y e30_40) (q := 41) rfl rfl rfl ?_
      refine iLw X21 hx (hb Y e30_41) (q := 43) rfl rfl ?_
      obtain ⟨y31, hy31⟩ : ∃ y, y = cs.getD (i21b + 1) 0 := ⟨_, rfl⟩
      have g31 : (cs.map lo8V).getD (i21b + 1) (.int 0) = .int (StrChars.lo8 y31) := by rw [hy31]; exact map_getD Hn (show (i21b + 1) < n from by omega)
      have r31 := rng_of Hr Hn (show (i21b + 1) < n from by omega) hy31
      refine g_ldB X21 hx hZ0 PB (i := (i21b + 1)) (on_clamp (show (i21b + 1) < 2147483648 from by omega)) (on_nn (show (i21b + 1) < 2147483648 from by omega)) (on_lt (show (i21b + 1) < n from by omega) (show n < 2147483648 from by omega)) (v := (.int (StrChars.lo8 y31))) g31 e21 (hb Y e30_43) (q := 44) rfl ?_
      refine iLw X21 hx (hb Y e30_44) (q := 46) rfl rfl ?_
      by_cases hc32 : (StrChars.lo8 y31) = (47 : Int32)
      ·refine icY X21 hx (hb Y e30_46) (q := 52) (by decide) (by decide) (teq hc32).1 ?_
       refine iLw X21 hx (hb Y e30_52) (q := 54) rfl rfl ?_
       refine iLw X21 hx (hb Y e30_54) (q := 56) rfl rfl ?_
       refine icN X21 hx (hb Y e30_56) (q := 59) rfl (flt (on_le (show (i21b + 1) ≤ (n - 2) from by omega) (show (n - 2) < 2147483648 from by omega))).2.2.1 ?_
       refine iLw X21 hx (hb Y e30_59) (q := 61) rfl rfl ?_
       refine cI X21 hx (hb Y e30_61) (q := 62) rfl (z := 1) rfl ?_
       refine g_iadd X21 hx (hb Y e30_62) (q := 63) rfl (z := (Int32.ofNat (i21b + 1 + 1))) (on_add (i21b + 1) 1) ?_
       refine sIw X21 hx (hb Y e30_63) (q := 65) rfl (Ls' := #[vr t, vi (Int32.ofNat n), vr t2, vi 2, vi 0, vi 47, vi (Int32.ofNat (n - 2)), vi (Int32.ofNat (i21b + 1)), vi (Int32.ofNat (i21b + 1 + 1)), sl21b_9, sl21b_10]) (by rcases hs21b_8 with rfl | ⟨_, rfl⟩ <;> rfl) ?_
       refine iLw X21 hx (hb Y e30_65) (q := 67) rfl rfl ?_
       refine iL X21 hx (hb Y e30_67) (q := 68) rfl rfl ?_
       refine g_iadd X21 hx (hb Y e30_68) (q := 69) rfl (z := (Int32.ofNat (i21b + 1 + 1 + 2))) (on_add (i21b + 1 + 1) 2) ?_
       refine cI X21 hx (hb Y e30_69) (q := 70) rfl (z := 1) rfl ?_
       refine g_isub X21 hx (hb Y e30_70) (q := 71) rfl (z := (Int32.ofNat (i21b + 1 + 1 + 2 - 1))) (on_sub (show 1 ≤ i21b + 1 + 1 + 2 from by omega) (show i21b + 1 + 1 + 2 < 2147483648 from by omega)) ?_
       refine sIw X21 hx (hb Y e30_71) (q := 73) rfl (Ls' := #[vr t, vi (Int32.ofNat n), vr t2, vi 2, vi 0, vi 47, vi (Int32.ofNat (n - 2)), vi (Int32.ofNat (i21b + 1)), vi (Int32.ofNat (i21b + 1 + 1)), vi (Int32.ofNat (i21b + 1 + 1 + 2 - 1)), sl21b_10]) (by rcases hs21b_9 with rfl | ⟨_, rfl⟩ <;> rfl) ?_
       refine cI X21 hx (hb Y e30_73) (q := 74) rfl (z := 1) rfl ?_
       refine sIw X21 hx (hb Y e30_74) (q := 76) rfl (Ls' := #[vr t, vi (Int32.ofNat n), vr t2, vi 2, vi 0, vi 47, vi (Int32.ofNat (n - 2)), vi (Int32.ofNat (i21b + 1)), vi (Int32.ofNat (i21b + 1 + 1)), vi (Int32.ofNat (i21b + 1 + 1 + 2 - 1)), vi 1]) (by rcases hs21b_10 with rfl | ⟨_, rfl⟩ <;> rfl) ?_
       refine iLw X21 hx (hb Y e30_76) (q := 78) rfl rfl ?_
       refine iLw X21 hx (hb Y e30_78) (q := 80) rfl rfl ?_
       refine icN X21 hx (hb Y e30_80) (q := 83) rfl (tlt (on_lt (show (i21b + 1 + 1) < (i21b + 1 + 1 + 2 - 1) from by omega) (show (i21b + 1 + 1 + 2 - 1) < 2147483648 from by omega))).2.1 ?_
       refine aL X21 hx (hb Y e30_83) (q := 84) rfl rfl rfl ?_
       refine iLw X21 hx (hb Y e30_84) (q := 86) rfl rfl ?_
       obtain ⟨y33, hy33⟩ : ∃ y, y = cs.getD (i21b + 1 + 1) 0 := ⟨_, rfl⟩
       have g33 : (cs.map lo8V).getD (i21b + 1 + 1) (.int 0) = .int (StrChars.lo8 y33) := by rw [hy33]; exact map_getD Hn (show (i21b + 1 + 1) < n from by omega)
       have r33 := rng_of Hr Hn (show (i21b + 1 + 1) < n from by omega) hy33
       refine g_ldB X21 hx hZ0 PB (i := (i21b + 1 + 1)) (on_clamp (show (i21b + 1 + 1) < 2147483648 from by omega)) (on_nn (show (i21b + 1 + 1) < 2147483648 from by omega)) (on_lt (show (i21b + 1 + 1) < n from by omega) (show n < 2147483648 from by omega)) (v := (.int (StrChars.lo8 y33))) g33 e21 (hb Y e30_86) (q := 87) rfl ?_
       refine aL X21 hx (hb Y e30_87) (q := 88) rfl rfl rfl ?_
       refine iLw X21 hx (hb Y e30_88) (q := 90) rfl rfl ?_
       refine g_ldB X21 hx hZ0 P2 (i := 1) (by decide) (by decide) (by decide) (v := (iv 47)) rfl e21 (hb Y e30_90) (q := 91) rfl ?_
       by_cases hc34 : (StrChars.lo8 y33) = (47 : Int32)
       ·refine icN X21 hx (hb Y e30_91) (q := 94) rfl (teq hc34).2 ?_
        refine g_iinc X21 hx (hb Y e30_94) (q := 97) rfl rfl (z := (Int32.ofNat (i21b + 1 + 1 + 1))) (on_add (i21b + 1 + 1) 1) (Ls' := #[vr t, vi (Int32.ofNat n), vr t2, vi 2, vi 0, vi 47, vi (Int32.ofNat (n - 2)), vi (Int32.ofNat (i21b + 1)), vi (Int32.ofNat (i21b + 1 + 1 + 1)), vi (Int32.ofNat (i21b + 1 + 1 + 2 - 1)), vi 1]) rfl ?_
        refine g_iinc X21 hx (hb Y e30_97) (q := 100) rfl rfl (z := 2) (by decide) (Ls' := #[vr t, vi (Int32.ofNat n), vr t2, vi 2, vi 0, vi 47, vi (Int32.ofNat (n - 2)), vi (Int32.ofNat (i21b + 1)), vi (Int32.ofNat (i21b + 1 + 1 + 1)), vi (Int32.ofNat (i21b + 1 + 1 + 2 - 1)), vi 2]) rfl ?_
        refine g_goto X21 hx (hb Y e30_100) (q := 76) (by decide) (by decide) ?_
        refine iLw X21 hx (hb Y e30_76) (q := 78) rfl rfl ?_
        refine iLw X21 hx (hb Y e30_78) (q := 80) rfl rfl ?_
        refine icY X21 hx (hb Y e30_80) (q := 103) (by decide) (by decide) (flt (on_le (show (i21b + 1 + 1 + 2 - 1) ≤ (i21b + 1 + 1 + 1) from by omega) (show (i21b + 1 + 1 + 1) < 2147483648 from by omega))).2.1 ?_
        refine iLw X21 hx (hb Y e30_103) (q := 105) rfl rfl ?_
        refine iLw X21 hx (hb Y e30_105) (q := 107) rfl rfl ?_
        refine icN X21 hx (hb Y e30_107) (q := 110) rfl (teq (show Int32.ofNat ((i21b + 1 + 1 + 1)) = Int32.ofNat ((i21b + 1 + 1 + 2 - 1)) from congrArg Int32.ofNat (show (i21b + 1 + 1 + 1) = (i21b + 1 + 1 + 2 - 1) from by omega))).2 ?_
        refine iLw X21 hx (hb Y e30_110) (q := 112) rfl rfl ?_
        refine endP X21 hlk (fun h => by rw [hret] at h; cases h) (lastI X21 hx hret (hb Y e30_112)) ?_ (by decide) (by decide)
        rw [e21]
        exact ⟨(Int32.ofNat (i21b + 1)), rfl, N21, rfl, (Or.inl ⟨⟨(i21b + 1), by omega, hy31.symm.trans (l47 r31.1 r31.2 hc32), hy33.symm.trans (l47 r33.1 r33.2 hc34)⟩, on_nn (show (i21b + 1) < 2147483648 from by omega)⟩)⟩
       ·refine icY X21 hx (hb Y e30_91) (q := 103) (by decide) (by decide) (feq hc34).2 ?_
        refine iLw X21 hx (hb Y e30_103) (q := 105) rfl rfl ?_
        refine iLw X21 hx (hb Y e30_105) (q := 107) rfl rfl ?_
        refine icY X21 hx (hb Y e30_107) (q := 113) (by decide) (by decide) (feq (on_neq (show ¬ (i21b + 1 + 1) = (i21b + 1 + 1 + 2 - 1) from by omega) (show (i21b + 1 + 1) < 2147483648 from by omega) (show (i21b + 1 + 1 + 2 - 1) < 2147483648 from by omega))).2 ?_
        refine g_iinc X21 hx (hb Y e30_113) (q := 116) rfl rfl (z := (Int32.ofNat (i21b + 1 + 1))) (on_add (i21b + 1) 1) (Ls' := #[vr t, vi (Int32.ofNat n), vr t2, vi 2, vi 0, vi 47, vi (Int32.ofNat (n - 2)), vi (Int32.ofNat (i21b + 1 + 1)), vi (Int32.ofNat (i21b + 1 + 1)), vi (Int32.ofNat (i21b + 1 + 1 + 2 - 1)), vi 1]) rfl ?_
        refine g_goto X21 hx (hb Y e30_116) (q := 14) (by decide) (by decide) ?_
        exact ih.1 (i21b + 1 + 1) _ _ (vi (Int32.ofNat (i21b + 1 + 1))) (vi (Int32.ofNat (i21b + 1 + 1 + 2 - 1))) (vi 1) (show 2 * (n + 2 - (i21b + 1 + 1)) + 2 ≤ M21 from by omega) X21 e21 N21 (Or.inr ⟨_, rfl⟩) (Or.inr ⟨_, rfl⟩) (Or.inr ⟨_, rfl⟩) (show (i21b + 1 + 1) ≤ n from by omega) (ds_step (ds_step q2 (fun z => d2 z.1)) (fun z => hc34 (by rw [hy33, z.2]; decide)))
      ·refine icN X21 hx (hb Y e30_46) (q := 49) rfl (feq hc32).1 ?_
       refine g_goto X21 hx (hb Y e30_49) (q := 30) (by decide) (by decide) ?_
       exact ih.2 (i21b + 1) _ _ (sl21b_8) (sl21b_9) (sl21b_10) (show 2 * (n + 2 - (i21b + 1)) + 1 ≤ M21 from by omega) X21 e21 N21 hs21b_8 hs21b_9 hs21b_10 (show (i21b + 1) + 2 ≤ n from by omega) (ds_step q2 (fun z => d2 z.1)) (fun z => hc32 (by rw [hy31, z]; decide))
  exact (lp21 _).1 0 _ _ (.unset) (.unset) (.unset) (Nat.le_refl _) X0 e0 N0 (Or.inl rfl) (Or.inl rfl) (Or.inl rfl) (Nat.zero_le _) (fun _ q => absurd q (Nat.not_lt_zero _))
theorem e29_0 : Dc kC17 0 (.aload_n 1) 1 := by decide +kernel
theorem e29_1 : Dc kC17 1 .arraylength 1 := by decide +kernel
theorem e29_2 : Dc kC17 2 (.ifCond .ne 5) 3 := by decide +kernel
theorem e29_7 : Dc kC17 7 (.aload_n 0) 1 := by decide +kernel
theorem e29_8 : Dc kC17 8 .arraylength 1 := by decide +kernel
theorem e29_9 : Dc kC17 9 (.ifCond .ne 5) 3 := by decide +kernel
theorem e29_12 : Dc kC17 12 (.iconst (-1)) 1 := by decide +kernel
theorem e29_13 : Dc kC17 13 .ireturn 1 := by decide +kernel
theorem e29_14 : Dc kC17 14 (.aload_n 0) 1 := by decide +kernel
theorem e29_15 : Dc kC17 15 (.aload_n 0) 1 := by decide +kernel
theorem e29_16 : Dc kC17 16 .arraylength 1 := by decide +kernel
theorem e29_17 : Dc kC17 17 (.aload_n 1) 1 := by decide +kernel
theorem e29_18 : Dc kC17 18 (.aload_n 1) 1 := by decide +kernel
theorem e29_19 : Dc kC17 19 .arraylength 1 := by decide +kernel
theorem e29_20 : Dc kC17 20 (.iconst 0) 1 := by decide +kernel
theorem e29_21 : Dc kC17 21 (.invokestatic 99) 3 := by decide +kernel
theorem wd212 (hw : HW a0 Z) : BW a0 Z (.code ⟨sT5, "indexOf", "([BI[BII)I"⟩ kC40 (11 : Nat) (Option.some Jvm.ClassFile.FieldType.int)) := wat hw 212 rfl
theorem wd210 (hw : HW a0 Z) : BW a0 Z (.methodLink sT5 (99 : Nat) ⟨sT5, "indexOf", "([BI[BII)I"⟩) := wat hw 210 rfl
theorem wd211 (hw : HW a0 Z) : BW a0 Z (.static ⟨sT5, "indexOf", "([BI[BII)I"⟩) := wat hw 211 rfl
theorem e29_24 : Dc kC17 24 .ireturn 1 := by decide +kernel
def Q_ix2 (Z : State) (zC : Int32) (vF : Value) (t : Addr) (kb : ClassId) (cs : List Int32) (n : Nat) (t2 : Addr) (k2 : ClassId) (h0 : Heap) (v : Option Value) (h : Heap) (L : List Loc) : Prop := ∃ (ix : Int32), v = some (.int ix) ∧ Fr Z.heap.size L ∧ h = h0 ∧ (IXS cs ix)
theorem rm_ix2 (l : Launch) (Z : State) (a0 : Array Value) (hw : HW a0 Z) (zC : Int32) (vF : Value) (G : GB l a0 Z zC vF) (t : Addr) (kb : ClassId) (cs : List Int32) (n : Nat) (t2 : Addr) (k2 : ClassId) (h0 : Heap) (O0 : Old Z Z.heap.size h0) (PB : Arv Z h0 t kb .byte (Int32.ofNat n) (cs.map lo8V) (.int 0)) (Hn : (cs.length = n)) (Hm : (n ≤ 6)) (Hr : (ALL cs)) (P2 : Arv Z h0 t2 k2 .byte (2 : Int32) [(iv 47), (iv 47)] (.int 0)) :
    Con l Z (⟨"java/lang/StringLatin1", "indexOf", "([B[B)I"⟩ : MethodName) kC17 2 (some .int) ({ frames := 1, cells := 0, slots := 0, locals := 22 } : Room) #[(.ref t), (.ref t2)] h0 (Q_ix2 Z zC vF t kb cs n t2 k2 h0) := by
 refine Con.intro (plainFor_of_name pn2) ?_
 intro p e s m below meth c T0 X0 hx Y hml hown0 hnm hret hlk hZ0 e0
 have N0 := Fr.nil Z.heap.size
 refine castGo (g' := mkF m 0 #[vr t, vr t2] []) (by first | rfl | (simp [entryFrame, mkF, argsToLocals, Value.category]; done)) ?_
 show Go _ _ _ _ (T0.setTop (mkF m 0 #[vr t, vr t2] []))
 refine aL X0 hx (hb Y e29_0) (q := 1) rfl rfl rfl ?_
 refine g_len X0 hx hZ0 P2 e0 (hb Y e29_1) (q := 2) rfl ?_
 refine ifY X0 hx (hb Y e29_2) (q := 7) (by decide) (by decide) (by decide) ?_
 refine aL X0 hx (hb Y e29_7) (q := 8) rfl rfl rfl ?_
 refine g_len X0 hx hZ0 PB e0 (hb Y e29_8) (q := 9) rfl ?_
 rcases Nat.eq_zero_or_pos n with hp | hp
 ·have hq : Int32.ofNat n = 0 := by rw [hp]; rfl
  show Go _ _ _ _ (T0.setTop (mkF m 9 #[vr t, vr t2] [(.int (Int32.ofNat n))]))
  refine ifN X0 hx (hb Y e29_9) (q := 12) rfl ((if0 _ _).trans (teq hq).2) ?_
  refine cI X0 hx (hb Y e29_12) (q := 13) rfl (z := -1) rfl ?_
  refine endP X0 hlk (fun h => by rw [hret] at h; cases h) (lastI X0 hx hret (hb Y e29_13)) ?_ (by decide) (by decide)
  rw [e0]
  exact ⟨(-1 : Int32), rfl, N0, rfl, (Or.inr ⟨fun ⟨j, z1, z2⟩ => absurd z1 (by omega), rfl⟩)⟩
 ·show Go _ _ _ _ (T0.setTop (mkF m 9 #[vr t, vr t2] [(.int (Int32.ofNat n))]))
  refine ifY X0 hx (hb Y e29_9) (q := 14) (by decide) (by decide) ((if0 _ _).trans (feq (fun q => on_ne (i := 0) hp (show n < 2147483648 from by omega) q.symm)).2) ?_
  refine aL X0 hx (hb Y e29_14) (q := 15) rfl rfl rfl ?_
  refine aL X0 hx (hb Y e29_15) (q := 16) rfl rfl rfl ?_
  refine g_len X0 hx hZ0 PB e0 (hb Y e29_16) (q := 17) rfl ?_
  refine aL X0 hx (hb Y e29_17) (q := 18) rfl rfl rfl ?_
  refine aL X0 hx (hb Y e29_18) (q := 19) rfl rfl rfl ?_
  refine g_len X0 hx hZ0 P2 e0 (hb Y e29_19) (q := 20) rfl ?_
  refine cI X0 hx (hb Y e29_20) (q := 21) rfl (z := 0) rfl ?_
  refine g_st X0 hx hZ0 hown0 (wd210 hw) (wd211 hw) (wd99 hw) (wd212 hw) (by decide) e0 (Con.back (W := 0) (rm_ix5 l Z a0 hw zC vF G t kb cs n t2 k2 h0 O0 PB Hn Hm Hr P2 (show 1 ≤ n from by omega)) hZ0 (wd212 hw) (wd99 hw) (by decide) (by decide)) (by rw [hml]; rfl) (lenOf pd12 rfl) rfl (Nat.le_of_eq rfl) (hb Y e29_21) (q := 24) rfl (by decide) (by decide) ?_
  intro v21 T21 L21 X21 Q21
  obtain ⟨ix_21, rfl, Nq21, e21, q21_0⟩ := Q21
  have N21 := Fr.app N0 Nq21
  show Go _ _ _ _ (T21.setTop (mkF m 24 _ [(.int ix_21)]))
  refine endP X21 hlk (fun h => by rw [hret] at h; cases h) (lastI X21 hx hret (hb Y e29_24)) ?_ (by decide) (by decide)
  rw [e21]
  exact ⟨ix_21, rfl, N21, rfl, q21_0⟩
theorem e22_0 : Dc kC43 0 (.aload_n 0) 1 := by decide +kernel
theorem e22_1 : Dc kC43 1 (.invokevirtual 335) 3 := by decide +kernel
theorem e22_4 : Dc kC43 4 (.istore_n 2) 1 := by decide +kernel
theorem e22_5 : Dc kC43 5 (.iload_n 2) 1 := by decide +kernel
theorem e22_6 : Dc kC43 6 (.aload_n 1) 1 := by decide +kernel
theorem e22_7 : Dc kC43 7 (.invokevirtual 335) 3 := by decide +kernel
theorem e22_10 : Dc kC43 10 (.if_icmp .ne 36) 3 := by decide +kernel
theorem e22_13 : Dc kC43 13 (.aload_n 0) 1 := by decide +kernel
theorem e22_14 : Dc kC43 14 (.invokevirtual 492) 3 := by decide +kernel
theorem e22_17 : Dc kC43 17 (.ifCond .eq 17) 3 := by decide +kernel
theorem e22_20 : Dc kC43 20 (.aload_n 0) 1 := by decide +kernel
theorem e22_21 : Dc kC43 21 (.getfield 9) 3 := by decide +kernel
theorem e22_24 : Dc kC43 24 (.aload_n 1) 1 := by decide +kernel
theorem e22_25 : Dc kC43 25 (.getfield 9) 3 := by decide +kernel
theorem e22_28 : Dc kC43 28 (.invokestatic 647) 3 := by decide +kernel
theorem wd133 (hw : HW a0 Z) : BW a0 Z (.code ⟨sT5, "indexOf", "([B[B)I"⟩ kC17 (2 : Nat) (Option.some Jvm.ClassFile.FieldType.int)) := wat hw 133 rfl
theorem pd15 : parseMethodDescriptor "([B[B)I" = some ⟨[(.array .byte), (.array .byte)], some .int⟩ := by decide +kernel
theorem wd131 (hw : HW a0 Z) : BW a0 Z (.methodLink sT0 (647 : Nat) ⟨sT5, "indexOf", "([B[B)I"⟩) := wat hw 131 rfl
theorem wd132 (hw : HW a0 Z) : BW a0 Z (.static ⟨sT5, "indexOf", "([B[B)I"⟩) := wat hw 132 rfl
theorem e22_31 : Dc kC43 31 (.goto 14) 3 := by decide +kernel
theorem e22_45 : Dc kC43 45 .ireturn 1 := by decide +kernel
def Q_ios (Z : State) (zC : Int32) (vF : Value) (a1 t : Addr) (kb : ClassId) (cs : List Int32) (n : Nat) (a2 t2 : Addr) (k2 : ClassId) (h0 : Heap) (v : Option Value) (h : Heap) (L : List Loc) : Prop := ∃ (ix : Int32), v = some (.int ix) ∧ Fr Z.heap.size L ∧ h = h0 ∧ (IXS cs ix)
theorem rm_ios (l : Launch) (Z : State) (a0 : Array Value) (hw : HW a0 Z) (zC : Int32) (vF : Value) (G : GB l a0 Z zC vF) (a1 t : Addr) (kb : ClassId) (cs : List Int32) (n : Nat) (a2 t2 : Addr) (k2 : ClassId) (h0 : Heap) (O0 : Old Z Z.heap.size h0) (Pe : Exa Z h0 a1 sT0) (Pc : Fld Z h0 a1 sT0 "coder" "B" (iv 0)) (Pv : Fld Z h0 a1 sT0 "value" "[B" (.ref t)) (PB : Arv Z h0 t kb .byte (Int32.ofNat n) (cs.map lo8V) (.int 0)) (Hn : (cs.length = n)) (Hm : (n ≤ 6)) (Hr : (ALL cs)) (Qe : Exa Z h0 a2 sT0) (Qc : Fld Z h0 a2 sT0 "coder" "B" (iv 0)) (Qv : Fld Z h0 a2 sT0 "value" "[B" (.ref t2)) (P2 : Arv Z h0 t2 k2 .byte (2 : Int32) [(iv 47), (iv 47)] (.int 0)) :
    Con l Z (⟨sT0, "indexOf", "(Ljava/lang/String;)I"⟩ : MethodName) kC43 3 (some .int) ({ frames := 2, cells := 0, slots := 0, locals := 35 } : Room) #[(.ref a1), (.ref a2)] h0 (Q_ios Z zC vF a1 t kb cs n a2 t2 k2 h0) := by
 refine Con.intro (plainFor_of_name pn0) ?_
 intro p e s m below meth c T0 X0 hx Y hml hown0 hnm hret hlk hZ0 e0
 have N0 := Fr.nil Z.heap.size
 refine castGo (g' := mkF m 0 #[vr a1, vr a2, uS] []) (by first | rfl | (simp [entryFrame, mkF, argsToLocals, Value.category]; done)) ?_
 show Go _ _ _ _ (T0.setTop (mkF m 0 #[vr a1, vr a2, uS] []))
 refine aL X0 hx (hb Y e22_0) (q := 1) rfl rfl rfl ?_
 refine g_vi X0 hx hZ0 hown0 (wd54 hw) (wd55 hw) (notFace_of_selects (args := #[]) (mvT hZ0 (wd57 hw))) (wd57 hw) (wd56 hw) (by decide) Pe e0 (Con.back (W := 0) (rm_coder0 l Z a0 hw zC vF G a1 h0 O0 Pc) hZ0 (wd58 hw) (wd9 hw) (by decide) (by decide)) (by rw [hml]; rfl) (lenOf pd0 rfl) rfl (Nat.le_of_eq rfl) (hb Y e22_1) (q := 4) rfl (by decide) (by decide) ?_
 intro v21 T21 L21 X21 Q21
 obtain ⟨rfl, Nq21, e21⟩ := Q21
 have N21 := Fr.app N0 Nq21
 show Go _ _ _ _ (T21.setTop (mkF m 4 _ [(iv 0)]))
 refine sI X21 hx (hb Y e22_4) (q := 5) rfl (Ls' := #[vr a1, vr a2, vi 0]) rfl ?_
 refine iL X21 hx (hb Y e22_5) (q := 6) rfl rfl ?_
 refine aL X21 hx (hb Y e22_6) (q := 7) rfl rfl rfl ?_
 refine g_vi X21 hx hZ0 hown0 (wd54 hw) (wd55 hw) (notFace_of_selects (args := #[]) (mvT hZ0 (wd57 hw))) (wd57 hw) (wd56 hw) (by decide) Qe e21 (Con.back (W := 1) (rm_coder0 l Z a0 hw zC vF G a2 h0 O0 Qc) hZ0 (wd58 hw) (wd9 hw) (by decide) (by decide)) (by rw [hml]; rfl) (lenOf pd0 rfl) rfl (Nat.le_of_eq rfl) (hb Y e22_7) (q := 10) rfl (by decide) (by decide) ?_
 intro v22 T22 L22 X22 Q22
 obtain ⟨rfl, Nq22, e22⟩ := Q22
 have N22 := Fr.app N21 Nq22
 show Go _ _ _ _ (T22.setTop (mkF m 10 _ [(iv 0), (iv 0)]))
 refine icN X22 hx (hb Y e22_10) (q := 13) rfl (by decide) ?_
 refine aL X22 hx (hb Y e22_13) (q := 14) rfl rfl rfl ?_
 refine g_vi X22 hx hZ0 hown0 (wd92 hw) (wd93 hw) (notFace_of_selects (args := #[]) (mvT hZ0 (wd95 hw))) (wd95 hw) (wd94 hw) (by decide) Pe e22 (Con.back (W := 0) (rm_isl0 l Z a0 hw zC vF G a1 h0 O0 Pc) hZ0 (wd96 hw) (wd9 hw) (by decide) (by decide)) (by rw [hml]; rfl) (lenOf pd4 rfl) rfl (Nat.le_of_eq rfl) (hb Y e22_14) (q := 17) rfl (by decide) (by decide) ?_
 intro v23 T23 L23 X23 Q23
 obtain ⟨rfl, Nq23, e23⟩ := Q23
 have N23 := Fr.app N22 Nq23
 show Go _ _ _ _ (T23.setTop (mkF m 17 _ [(iv 1)]))
 refine ifN X23 hx (hb Y e22_17) (q := 20) rfl (by decide) ?_
 refine aL X23 hx (hb Y e22_20) (q := 21) rfl rfl rfl ?_
 refine g_getF X23 hx hZ0 hown0 (host := "") (Or.inl (wd53 hw)) Via.refl Pv e23 (hb Y e22_21) (q := 24) rfl ?_
 intro T24 X24 e24
 refine aL X24 hx (hb Y e22_24) (q := 25) rfl rfl rfl ?_
 refine g_getF X24 hx hZ0 hown0 (host := "") (Or.inl (wd53 hw)) Via.refl Qv e24 (hb Y e22_25) (q := 28) rfl ?_
 intro T25 X25 e25
 refine g_st X25 hx hZ0 hown0 (wd131 hw) (wd132 hw) (wd99 hw) (wd133 hw) (by decide) e25 (Con.back (W := 0) (rm_ix2 l Z a0 hw zC vF G t kb cs n t2 k2 h0 O0 PB Hn Hm Hr P2) hZ0 (wd133 hw) (wd99 hw) (by decide) (by decide)) (by rw [hml]; rfl) (lenOf pd15 rfl) rfl (Nat.le_of_eq rfl) (hb Y e22_28) (q := 31) rfl (by decide) (by decide) ?_
 intro v26 T26 L26 X26 Q26
 obtain ⟨ix_26, rfl, Nq26, e26, q26_0⟩ := Q26
 have N26 := Fr.app N23 Nq26
 show Go _ _ _ _ (T26.setTop (mkF m 31 _ [(.int ix_26)]))
 refine g_goto X26 hx (hb Y e22_31) (q := 45) (by decide) (by decide) ?_
 refine endP X26 hlk (fun h => by rw [hret] at h; cases h) (lastI X26 hx hret (hb Y e22_45)) ?_ (by decide) (by decide)
 rw [e26]
 exact ⟨ix_26, rfl, N26, rfl, q26_0⟩
theorem e5_0 : Dc kC2 0 (.aload_n 0) 1 := by decide +kernel
theorem e5_1 : Dc kC2 1 .areturn 1 := by decide +kernel
def Q_tost (Z : State) (zC : Int32) (vF : Value) (a2 : Addr) (h0 : Heap) (v : Option Value) (h : Heap) (L : List Loc) : Prop := v = some (.ref a2) ∧ Fr Z.heap.size L ∧ h = h0
theorem rm_tost (l : Launch) (Z : State) (a0 : Array Value) (hw : HW a0 Z) (zC : Int32) (vF : Value) (G : GB l a0 Z zC vF) (a2 : Addr) (h0 : Heap) (O0 : Old Z Z.heap.size h0)  :
    Con l Z (⟨sT0, "toString", "()Ljava/lang/String;"⟩ : MethodName) kC2 1 (some (.object sT0)) ({ frames := 0, cells := 0, slots := 0, locals := 0 } : Room) #[(.ref a2)] h0 (Q_tost Z zC vF a2 h0) := by
 refine Con.intro (plainFor_of_name pn0) ?_
 intro p e s m below meth c T0 X0 hx Y hml hown0 hnm hret hlk hZ0 e0
 have N0 := Fr.nil Z.heap.size
 refine castGo (g' := mkF m 0 #[vr a2] []) (by first | rfl | (simp [entryFrame, mkF, argsToLocals, Value.category]; done)) ?_
 show Go _ _ _ _ (T0.setTop (mkF m 0 #[vr a2] []))
 refine aL X0 hx (hb Y e5_0) (q := 1) rfl rfl rfl ?_
 refine endP X0 hlk (fun h => by rw [hret] at h; cases h) (lastA X0 hx hret rfl rfl rfl (hb Y e5_1)) ?_ (by decide) (by decide)
 rw [e0]
 exact ⟨rfl, N0, rfl⟩
theorem e24_0 : Dc kC42 0 (.aload_n 0) 1 := by decide +kernel
theorem e24_1 : Dc kC42 1 (.aload_n 1) 1 := by decide +kernel
theorem e24_2 : Dc kC42 2 (.invokeinterface 710 1) 5 := by decide +kernel
theorem wd125 (hw : HW a0 Z) : BW a0 Z (.code ⟨sT0, "toString", sT7⟩ kC2 (1 : Nat) (Option.some (Jvm.ClassFile.FieldType.object sT0))) := wat hw 125 rfl
theorem pd16 : parseMethodDescriptor "()Ljava/lang/String;" = some ⟨[], some (.object "java/lang/String")⟩ := by decide +kernel
theorem wd117 (hw : HW a0 Z) : BW a0 Z (.methodLink sT0 (710 : Nat) ⟨"java/lang/CharSequence", "toString", sT7⟩) := wat hw 117 rfl
theorem wd118 (hw : HW a0 Z) : BW a0 Z (.declares ⟨"java/lang/CharSequence", "toString", sT7⟩) := wat hw 118 rfl
theorem wd119 (hw : HW a0 Z) : BW a0 Z (.interfaceMethod "java/lang/CharSequence" "java/lang/CharSequence" "toString" sT7) := wat hw 119 rfl
theorem wd120 (hw : HW a0 Z) : BW a0 Z (.selects sT0 ⟨"java/lang/CharSequence", "toString", sT7⟩ ⟨sT0, "toString", sT7⟩) := wat hw 120 rfl
theorem wd121 (hw : HW a0 Z) : BW a0 Z (.instanceMethod ⟨sT0, "toString", sT7⟩) := wat hw 121 rfl
theorem wd122 (hw : HW a0 Z) : BW a0 Z (.publicMethod ⟨sT0, "toString", sT7⟩) := wat hw 122 rfl
theorem wd123 (hw : HW a0 Z) : BW a0 Z (.unhidden sT0 "toString" sT7) := wat hw 123 rfl
theorem wd124 (hw : HW a0 Z) : BW a0 Z (.castable sT0 "java/lang/CharSequence") := wat hw 124 rfl
theorem e24_7 : Dc kC42 7 (.invokevirtual 711) 3 := by decide +kernel
theorem wd130 (hw : HW a0 Z) : BW a0 Z (.code ⟨sT0, "indexOf", "(Ljava/lang/String;)I"⟩ kC43 (3 : Nat) (Option.some Jvm.ClassFile.FieldType.int)) := wat hw 130 rfl
theorem pd17 : parseMethodDescriptor "(Ljava/lang/String;)I" = some ⟨[(.object "java/lang/String")], some .int⟩ := by decide +kernel
theorem wd129 (hw : HW a0 Z) : BW a0 Z (.selects sT0 ⟨sT0, "indexOf", "(Ljava/lang/String;)I"⟩ ⟨sT0, "indexOf", "(Ljava/lang/String;)I"⟩) := wat hw 129 rfl
theorem wd126 (hw : HW a0 Z) : BW a0 Z (.methodLink sT0 (711 : Nat) ⟨sT0, "indexOf", "(Ljava/lang/String;)I"⟩) := wat hw 126 rfl
theorem wd127 (hw : HW a0 Z) : BW a0 Z (.declares ⟨sT0, "indexOf", "(Ljava/lang/String;)I"⟩) := wat hw 127 rfl
theorem wd128 (hw : HW a0 Z) : BW a0 Z (.instanceMethod ⟨sT0, "indexOf", "(Ljava/lang/String;)I"⟩) := wat hw 128 rfl
theorem e24_10 : Dc kC42 10 (.ifCond .lt 7) 3 := by decide +kernel
theorem e24_13 : Dc kC42 13 (.iconst 1) 1 := by decide +kernel
theorem e24_14 : Dc kC42 14 (.goto 4) 3 := by decide +kernel
theorem e24_18 : Dc kC42 18 .ireturn 1 := by decide +kernel
theorem e24_17 : Dc kC42 17 (.iconst 0) 1 := by decide +kernel
def Q_cont (Z : State) (zC : Int32) (vF : Value) (a1 t : Addr) (kb : ClassId) (cs : List Int32) (n : Nat) (a2 t2 : Addr) (k2 : ClassId) (h0 : Heap) (v : Option Value) (h : Heap) (L : List Loc) : Prop := ∃ (bb : Int32), v = some (.int bb) ∧ Fr Z.heap.size L ∧ h = h0 ∧ (BIT bb (DSL cs))
theorem rm_cont (l : Launch) (Z : State) (a0 : Array Value) (hw : HW a0 Z) (zC : Int32) (vF : Value) (G : GB l a0 Z zC vF) (a1 t : Addr) (kb : ClassId) (cs : List Int32) (n : Nat) (a2 t2 : Addr) (k2 : ClassId) (h0 : Heap) (O0 : Old Z Z.heap.size h0) (Pe : Exa Z h0 a1 sT0) (Pc : Fld Z h0 a1 sT0 "coder" "B" (iv 0)) (Pv : Fld Z h0 a1 sT0 "value" "[B" (.ref t)) (PB : Arv Z h0 t kb .byte (Int32.ofNat n) (cs.map lo8V) (.int 0)) (Hn : (cs.length = n)) (Hm : (n ≤ 6)) (Hr : (ALL cs)) (Qe : Exa Z h0 a2 sT0) (Qc : Fld Z h0 a2 sT0 "coder" "B" (iv 0)) (Qv : Fld Z h0 a2 sT0 "value" "[B" (.ref t2)) (P2 : Arv Z h0 t2 k2 .byte (2 : Int32) [(iv 47), (iv 47)] (.int 0)) :
    Con l Z (⟨sT0, "contains", "(Ljava/lang/CharSequence;)Z"⟩ : MethodName) kC42 2 (some .boolean) ({ frames := 3, cells := 0, slots := 0, locals := 49 } : Room) #[(.ref a1), (.ref a2)] h0 (Q_cont Z zC vF a1 t kb cs n a2 t2 k2 h0) := by
 refine Con.intro (plainFor_of_name pn0) ?_
 intro p e s m below meth c T0 X0 hx Y hml hown0 hnm hret hlk hZ0 e0
 have N0 := Fr.nil Z.heap.size
 refine castGo (g' := mkF m 0 #[vr a1, vr a2] []) (by first | rfl | (simp [entryFrame, mkF, argsToLocals, Value.category]; done)) ?_
 show Go _ _ _ _ (T0.setTop (mkF m 0 #[vr a1, vr a2] []))
 refine aL X0 hx (hb Y e24_0) (q := 1) rfl rfl rfl ?_
 refine aL X0 hx (hb Y e24_1) (q := 2) rfl rfl rfl ?_
 refine g_if X0 hx hZ0 hown0 (wd117 hw) (wd118 hw) (wd119 hw) rfl (wd120 hw) (wd121 hw) (wd122 hw) (wd123 hw) (wd124 hw) (by decide) Qe e0 (Con.back (W := 1) (rm_tost l Z a0 hw zC vF G a2 h0 O0 ) hZ0 (wd125 hw) (wd9 hw) (by decide) (by decide)) (by rw [hml]; rfl) (lenOf pd16 rfl) rfl (Nat.le_of_eq rfl) (hb Y e24_2) (q := 7) rfl (by decide) (by decide) ?_
 intro v21 T21 L21 X21 Q21
 obtain ⟨rfl, Nq21, e21⟩ := Q21
 have N21 := Fr.app N0 Nq21
 show Go _ _ _ _ (T21.setTop (mkF m 7 _ [(.ref a2), (.ref a1)]))
 refine g_vi X21 hx hZ0 hown0 (wd126 hw) (wd127 hw) (notFace_of_selects (args := #[]) (mvT hZ0 (wd129 hw))) (wd129 hw) (wd128 hw) (by decide) Pe e21 (Con.back (W := 0) (rm_ios l Z a0 hw zC vF G a1 t kb cs n a2 t2 k2 h0 O0 Pe Pc Pv PB Hn Hm Hr Qe Qc Qv P2) hZ0 (wd130 hw) (wd9 hw) (by decide) (by decide)) (by rw [hml]; rfl) (lenOf pd17 rfl) rfl (Nat.le_of_eq rfl) (hb Y e24_7) (q := 10) rfl (by decide) (by decide) ?_
 intro v22 T22 L22 X22 Q22
 obtain ⟨ix_22, rfl, Nq22, e22, q22_0⟩ := Q22
 have N22 := Fr.app N21 Nq22
 show Go _ _ _ _ (T22.setTop (mkF m 10 _ [(.int ix_22)]))
 rcases q22_0 with ⟨hE, hN⟩ | ⟨hE, rfl⟩
 ·show Go _ _ _ _ (T22.setTop (mkF m 10 #[vr a1, vr a2] [(.int ix_22)]))
  refine ifN X22 hx (hb Y e24_10) (q := 13) rfl ((if0 _ _).trans (flt hN).1) ?_
  refine cI X22 hx (hb Y e24_13) (q := 14) rfl (z := 1) rfl ?_
  refine g_goto X22 hx (hb Y e24_14) (q := 18) (by decide) (by decide) ?_
  refine endP X22 hlk (fun h => by rw [hret] at h; cases h) (lastN X22 hx (t := .boolean) (z' := (1 : Int32)) hret (by simp) (by decide) (hb Y e24_18)) ?_ (by decide) (by decide)
  rw [e22]
  exact ⟨(1 : Int32), rfl, N22, rfl, (Or.inl ⟨hE, rfl⟩)⟩
 ·show Go _ _ _ _ (T22.setTop (mkF m 10 #[vr a1, vr a2] [(.int (-1 : Int32))]))
  refine ifY X22 hx (hb Y e24_10) (q := 17) (by decide) (by decide) (by decide) ?_
  refine cI X22 hx (hb Y e24_17) (q := 18) rfl (z := 0) rfl ?_
  refine endP X22 hlk (fun h => by rw [hret] at h; cases h) (lastN X22 hx (t := .boolean) (z' := (0 : Int32)) hret (by simp) (by decide) (hb Y e24_18)) ?_ (by decide) (by decide)
  rw [e22]
  exact ⟨(0 : Int32), rfl, N22, rfl, (Or.inr ⟨hE, rfl⟩)⟩
theorem e3_0 : Dc kC11 0 (.iload_n 0) 1 := by decide +kernel
theorem e3_1 : Dc kC11 1 (.ifCond .lt 8) 3 := by decide +kernel
theorem e3_4 : Dc kC11 4 (.iload_n 0) 1 := by decide +kernel
theorem e3_5 : Dc kC11 5 (.iload_n 1) 1 := by decide +kernel
theorem e3_6 : Dc kC11 6 (.if_icmp .lt 10) 3 := by decide +kernel
theorem e3_16 : Dc kC11 16 (.iload_n 0) 1 := by decide +kernel
theorem e3_17 : Dc kC11 17 .ireturn 1 := by decide +kernel
def Q_pcin (Z : State) (zC : Int32) (vF : Value) (pk pz : Int32) (h0 : Heap) (v : Option Value) (h : Heap) (L : List Loc) : Prop := v = some (.int pk) ∧ Fr Z.heap.size L ∧ h = h0
theorem rm_pcin (l : Launch) (Z : State) (a0 : Array Value) (hw : HW a0 Z) (zC : Int32) (vF : Value) (G : GB l a0 Z zC vF) (pk pz : Int32) (h0 : Heap) (O0 : Old Z Z.heap.size h0) (Pk : (¬ (pk < (0 : Int32)))) (Pz : (pk < pz)) :
    Con l Z (⟨"jdk/internal/util/Preconditions", "checkIndex", "(IILjava/util/function/BiFunction;)I"⟩ : MethodName) kC11 3 (some .int) ({ frames := 0, cells := 0, slots := 0, locals := 0 } : Room) #[(.int pk), (.int pz), .null] h0 (Q_pcin Z zC vF pk pz h0) := by
 refine Con.intro (plainFor_of_name pn5) ?_
 intro p e s m below meth c T0 X0 hx Y hml hown0 hnm hret hlk hZ0 e0
 have N0 := Fr.nil Z.heap.size
 refine castGo (g' := mkF m 0 #[vi pk, vi pz, .val .null] []) (by first | rfl | (simp [entryFrame, mkF, argsToLocals, Value.category]; done)) ?_
 show Go _ _ _ _ (T0.setTop (mkF m 0 #[vi pk, vi pz, .val .null] []))
 refine iL X0 hx (hb Y e3_0) (q := 1) rfl rfl ?_
 refine ifN X0 hx (hb Y e3_1) (q := 4) rfl ((if0 _ _).trans (flt Pk).1) ?_
 refine iL X0 hx (hb Y e3_4) (q := 5) rfl rfl ?_
 refine iL X0 hx (hb Y e3_5) (q := 6) rfl rfl ?_
 refine icY X0 hx (hb Y e3_6) (q := 16) (by decide) (by decide) (tlt Pz).1 ?_
 refine iL X0 hx (hb Y e3_16) (q := 17) rfl rfl ?_
 refine endP X0 hlk (fun h => by rw [hret] at h; cases h) (lastI X0 hx hret (hb Y e3_17)) ?_ (by decide) (by decide)
 rw [e0]
 exact ⟨rfl, N0, rfl⟩
def Q_pcir (Z : State) (zC : Int32) (vF : Value) (pk pz : Int32) (a1 : Addr) (h0 : Heap) (v : Option Value) (h : Heap) (L : List Loc) : Prop := v = some (.int pk) ∧ Fr Z.heap.size L ∧ h = h0
theorem rm_pcir (l : Launch) (Z : State) (a0 : Array Value) (hw : HW a0 Z) (zC : Int32) (vF : Value) (G : GB l a0 Z zC vF) (pk pz : Int32) (a1 : Addr) (h0 : Heap) (O0 : Old Z Z.heap.size h0) (Pk : (¬ (pk < (0 : Int32)))) (Pz : (pk < pz)) :
    Con l Z (⟨"jdk/internal/util/Preconditions", "checkIndex", "(IILjava/util/function/BiFunction;)I"⟩ : MethodName) kC11 3 (some .int) ({ frames := 0, cells := 0, slots := 0, locals := 0 } : Room) #[(.int pk), (.int pz), (.ref a1)] h0 (Q_pcir Z zC vF pk pz a1 h0) := by
 refine Con.intro (plainFor_of_name pn5) ?_
 intro p e s m below meth c T0 X0 hx Y hml hown0 hnm hret hlk hZ0 e0
 have N0 := Fr.nil Z.heap.size
 refine castGo (g' := mkF m 0 #[vi pk, vi pz, vr a1] []) (by first | rfl | (simp [entryFrame, mkF, argsToLocals, Value.category]; done)) ?_
 show Go _ _ _ _ (T0.setTop (mkF m 0 #[vi pk, vi pz, vr a1] []))
 refine iL X0 hx (hb Y e3_0) (q := 1) rfl rfl ?_
 refine ifN X0 hx (hb Y e3_1) (q := 4) rfl ((if0 _ _).trans (flt Pk).1) ?_
 refine iL X0 hx (hb Y e3_4) (q := 5) rfl rfl ?_
 refine iL X0 hx (hb Y e3_5) (q := 6) rfl rfl ?_
 refine icY X0 hx (hb Y e3_6) (q := 16) (by decide) (by decide) (tlt Pz).1 ?_
 refine iL X0 hx (hb Y e3_16) (q := 17) rfl rfl ?_
 refine endP X0 hlk (fun h => by rw [hret] at h; cases h) (lastI X0 hx hret (hb Y e3_17)) ?_ (by decide) (by decide)
 rw [e0]
 exact ⟨rfl, N0, rfl⟩
theorem e10_0 : Dc kC9 0 (.iload_n 0) 1 := by decide +kernel
theorem e10_1 : Dc kC9 1 (.iload_n 1) 1 := by decide +kernel
theorem e10_2 : Dc kC9 2 (.getstatic 1053) 3 := by decide +kernel
theorem e10_5 : Dc kC9 5 (.invokestatic 1059) 3 := by decide +kernel
theorem wd252 (hw : HW a0 Z) : BW a0 Z (.code ⟨sT8, "checkIndex", "(IILjava/util/function/BiFunction;)I"⟩ kC11 (3 : Nat) (Option.some Jvm.ClassFile.FieldType.int)) := wat hw 252 rfl
theorem pd18 : parseMethodDescriptor "(IILjava/util/function/BiFunction;)I" = some ⟨[.int, .int, (.object "java/util/function/BiFunction")], some .int⟩ := by decide +kernel
theorem wd250 (hw : HW a0 Z) : BW a0 Z (.methodLink sT0 (1059 : Nat) ⟨sT8, "checkIndex", "(IILjava/util/function/BiFunction;)I"⟩) := wat hw 250 rfl
theorem wd251 (hw : HW a0 Z) : BW a0 Z (.static ⟨sT8, "checkIndex", "(IILjava/util/function/BiFunction;)I"⟩) := wat hw 251 rfl
theorem e10_8 : Dc kC9 8 .pop 1 := by decide +kernel
theorem e10_9 : Dc kC9 9 .return_ 1 := by decide +kernel
def Q_sci (Z : State) (zC : Int32) (vF : Value) (pk pz : Int32) (h0 : Heap) (v : Option Value) (h : Heap) (L : List Loc) : Prop := v = none ∧ Fr Z.heap.size L ∧ h = h0
theorem rm_sci (l : Launch) (Z : State) (a0 : Array Value) (hw : HW a0 Z) (zC : Int32) (vF : Value) (G : GB l a0 Z zC vF) (pk pz : Int32) (h0 : Heap) (O0 : Old Z Z.heap.size h0) (Pk : (¬ (pk < (0 : Int32)))) (Pz : (pk < pz)) :
    Con l Z (⟨sT0, "checkIndex", "(II)V"⟩ : MethodName) kC9 2 none ({ frames := 1, cells := 0, slots := 0, locals := 14 } : Room) #[(.int pk), (.int pz)] h0 (Q_sci Z zC vF pk pz h0) := by
 obtain ⟨SC, PC, rF, SF⟩ := id G
 refine Con.intro (plainFor_of_name pn0) ?_
 intro p e s m below meth c T0 X0 hx Y hml hown0 hnm hret hlk hZ0 e0
 have N0 := Fr.nil Z.heap.size
 refine castGo (g' := mkF m 0 #[vi pk, vi pz] []) (by first | rfl | (simp [entryFrame, mkF, argsToLocals, Value.category]; done)) ?_
 show Go _ _ _ _ (T0.setTop (mkF m 0 #[vi pk, vi pz] []))
 rcases id rF with hF | ⟨aF, hF⟩
 ·have SF1 : Sta Z Z.heap "jdk/internal/util/Preconditions" "SIOOBE_FORMATTER" "Ljava/util/function/BiFunction;" .null := by rw [← hF]; exact SF
  show Go _ _ _ _ (T0.setTop (mkF m 0 #[vi pk, vi pz] []))
  refine iL X0 hx (hb Y e10_0) (q := 1) rfl rfl ?_
  refine iL X0 hx (hb Y e10_1) (q := 2) rfl rfl ?_
  refine g_getS X0 hx hZ0 hown0 (host := "") (Or.inl (wd170 hw)) Via.refl (SF1.ext O0.2) e0 (hb Y e10_2) (q := 5) rfl ?_
  intro T21 X21 e21
  refine g_st X21 hx hZ0 hown0 (wd250 hw) (wd251 hw) (wd171 hw) (wd252 hw) (by decide) e21 (Con.back (W := 0) (rm_pcin l Z a0 hw zC vF G pk pz h0 O0 Pk Pz) hZ0 (wd252 hw) (wd171 hw) (by decide) (by decide)) (by rw [hml]; rfl) (lenOf pd18 rfl) rfl (Nat.le_of_eq rfl) (hb Y e10_5) (q := 8) rfl (by decide) (by decide) ?_
  intro v22 T22 L22 X22 Q22
  obtain ⟨rfl, Nq22, e22⟩ := Q22
  have N22 := Fr.app N0 Nq22
  show Go _ _ _ _ (T22.setTop (mkF m 8 _ [(.int pk)]))
  refine g_pop X22 hx (hb Y e10_8) (q := 9) rfl rfl ?_
  refine endP X22 hlk (fun _ => rfl) (lastV X22 hx hret (hb Y e10_9)) ?_ (by decide) (by decide)
  rw [e22]
  exact ⟨rfl, N22, rfl⟩
 ·have SF1 : Sta Z Z.heap "jdk/internal/util/Preconditions" "SIOOBE_FORMATTER" "Ljava/util/function/BiFunction;" (.ref aF) := by rw [← hF]; exact SF
  show Go _ _ _ _ (T0.setTop (mkF m 0 #[vi pk, vi pz] []))
  refine iL X0 hx (hb Y e10_0) (q := 1) rfl rfl ?_
  refine iL X0 hx (hb Y e10_1) (q := 2) rfl rfl ?_
  refine g_getS X0 hx hZ0 hown0 (host := "") (Or.inl (wd170 hw)) Via.refl (SF1.ext O0.2) e0 (hb Y e10_2) (q := 5) rfl ?_
  intro T23 X23 e23
  refine g_st X23 hx hZ0 hown0 (wd250 hw) (wd251 hw) (wd171 hw) (wd252 hw) (by decide) e23 (Con.back (W := 0) (rm_pcir l Z a0 hw zC vF G pk pz aF h0 O0 Pk Pz) hZ0 (wd252 hw) (wd171 hw) (by decide) (by decide)) (by rw [hml]; rfl) (lenOf pd18 rfl) rfl (Nat.le_of_eq rfl) (hb Y e10_5) (q := 8) rfl (by decide) (by decide) ?_
  intro v24 T24 L24 X24 Q24
  obtain ⟨rfl, Nq24, e24⟩ := Q24
  have N24 := Fr.app N0 Nq24
  show Go _ _ _ _ (T24.setTop (mkF m 8 _ [(.int pk)]))
  refine g_pop X24 hx (hb Y e10_8) (q := 9) rfl rfl ?_
  refine endP X24 hlk (fun _ => rfl) (lastV X24 hx hret (hb Y e10_9)) ?_ (by decide) (by decide)
  rw [e24]
  exact ⟨rfl, N24, rfl⟩
theorem e26_0 : Dc kC47 0 (.iload_n 1) 1 := by decide +kernel
theorem e26_1 : Dc kC47 1 (.aload_n 0) 1 := by decide +kernel
theorem e26_2 : Dc kC47 2 .arraylength 1 := by decide +kernel
theorem e26_3 : Dc kC47 3 (.invokestatic 9) 3 := by decide +kernel
theorem wd249 (hw : HW a0 Z) : BW a0 Z (.code ⟨sT0, "checkIndex", "(II)V"⟩ kC9 (2 : Nat) (Option.none : Option Jvm.ClassFile.FieldType)) := wat hw 249 rfl
theorem wd247 (hw : HW a0 Z) : BW a0 Z (.methodLink sT5 (9 : Nat) ⟨sT0, "checkIndex", "(II)V"⟩) := wat hw 247 rfl
theorem wd248 (hw : HW a0 Z) : BW a0 Z (.static ⟨sT0, "checkIndex", "(II)V"⟩) := wat hw 248 rfl
theorem e26_6 : Dc kC47 6 (.aload_n 0) 1 := by decide +kernel
theorem e26_7 : Dc kC47 7 (.iload_n 1) 1 := by decide +kernel
theorem e26_8 : Dc kC47 8 .baload 1 := by decide +kernel
theorem e26_9 : Dc kC47 9 (.sipush 255) 3 := by decide +kernel
theorem e26_12 : Dc kC47 12 .iand 1 := by decide +kernel
theorem e26_13 : Dc kC47 13 .i2c 1 := by decide +kernel
theorem e26_14 : Dc kC47 14 .ireturn 1 := by decide +kernel
def Q_lca (Z : State) (zC : Int32) (vF : Value) (t : Addr) (kb : ClassId) (cs : List Int32) (n px : Nat) (h0 : Heap) (v : Option Value) (h : Heap) (L : List Loc) : Prop := ∃ (yc : Int32), v = some (.int yc) ∧ Fr Z.heap.size L ∧ h = h0 ∧ (yc = cs.getD px 0) ∧ (¬ (yc < (0 : Int32))) ∧ (¬ ((255 : Int32) < yc))
theorem rm_lca (l : Launch) (Z : State) (a0 : Array Value) (hw : HW a0 Z) (zC : Int32) (vF : Value) (G : GB l a0 Z zC vF) (t : Addr) (kb : ClassId) (cs : List Int32) (n px : Nat) (h0 : Heap) (O0 : Old Z Z.heap.size h0) (PB : Arv Z h0 t kb .byte (Int32.ofNat n) (cs.map lo8V) (.int 0)) (Hn : (cs.length = n)) (Hm : (n ≤ 6)) (Hr : (ALL cs)) (Hx : (px < n)) :
    Con l Z (⟨"java/lang/StringLatin1", "charAt", "([BI)C"⟩ : MethodName) kC47 2 (some .char) ({ frames := 2, cells := 0, slots := 0, locals := 27 } : Room) #[(.ref t), (.int (Int32.ofNat px))] h0 (Q_lca Z zC vF t kb cs n px h0) := by
 refine Con.intro (plainFor_of_name pn2) ?_
 intro p e s m below meth c T0 X0 hx Y hml hown0 hnm hret hlk hZ0 e0
 have N0 := Fr.nil Z.heap.size
 refine castGo (g' := mkF m 0 #[vr t, vi (Int32.ofNat px)] []) (by first | rfl | (simp [entryFrame, mkF, argsToLocals, Value.category]; done)) ?_
 obtain ⟨yc, hyc⟩ : ∃ y, y = cs.getD px 0 := ⟨_, rfl⟩
 have gc : (cs.map lo8V).getD px (.int 0) = .int (StrChars.lo8 yc) := by rw [hyc]; exact map_getD Hn (show px < n from by omega)
 have rc := rng_of Hr Hn (show px < n from by omega) hyc
 show Go _ _ _ _ (T0.setTop (mkF m 0 #[vr t, vi (Int32.ofNat px)] []))
 refine iL X0 hx (hb Y e26_0) (q := 1) rfl rfl ?_
 refine aL X0 hx (hb Y e26_1) (q := 2) rfl rfl rfl ?_
 refine g_len X0 hx hZ0 PB e0 (hb Y e26_2) (q := 3) rfl ?_
 refine g_st X0 hx hZ0 hown0 (wd247 hw) (wd248 hw) (wd9 hw) (wd249 hw) (by decide) e0 (Con.back (W := 0) (rm_sci l Z a0 hw zC vF G (Int32.ofNat px) (Int32.ofNat n) h0 O0 (on_nn (show px < 2147483648 from by omega)) (on_lt (show px < n from by omega) (show n < 2147483648 from by omega))) hZ0 (wd249 hw) (wd9 hw) (by decide) (by decide)) (by rw [hml]; rfl) (lenOf pd6 rfl) rfl (Nat.le_of_eq rfl) (hb Y e26_3) (q := 6) rfl (by decide) (by decide) ?_
 intro v21 T21 L21 X21 Q21
 obtain ⟨rfl, Nq21, e21⟩ := Q21
 have N21 := Fr.app N0 Nq21
 show Go _ _ _ _ (T21.setTop (mkF m 6 _ []))
 refine aL X21 hx (hb Y e26_6) (q := 7) rfl rfl rfl ?_
 refine iL X21 hx (hb Y e26_7) (q := 8) rfl rfl ?_
 refine g_ldB X21 hx hZ0 PB (i := px) (on_clamp (show px < 2147483648 from by omega)) (on_nn (show px < 2147483648 from by omega)) (on_lt (show px < n from by omega) (show n < 2147483648 from by omega)) (v := (.int (StrChars.lo8 yc))) gc e21 (hb Y e26_8) (q := 9) rfl ?_
 refine pI X21 hx (hb Y e26_9) (q := 12) rfl (z := 255) rfl ?_
 refine g_iand X21 hx (hb Y e26_12) (q := 13) rfl (z := yc) (back8 rc.1 rc.2) ?_
 refine g_i2c X21 hx (hb Y e26_13) (q := 14) rfl (z := yc) (i2c255 rc.1 rc.2) ?_
 refine endP X21 hlk (fun h => by rw [hret] at h; cases h) (lastN X21 hx (t := .char) (z' := yc) hret (by simp) (nar_of255 rc.1 rc.2) (hb Y e26_14)) ?_ (by decide) (by decide)
 rw [e21]
 exact ⟨yc, rfl, N21, rfl, hyc, rc.1, rc.2⟩
theorem e14_0 : Dc kC13 0 (.aload_n 0) 1 := by decide +kernel
theorem e14_1 : Dc kC13 1 (.invokevirtual 492) 3 := by decide +kernel
theorem e14_4 : Dc kC13 4 (.ifCond .eq 12) 3 := by decide +kernel
theorem e14_7 : Dc kC13 7 (.aload_n 0) 1 := by decide +kernel
theorem e14_8 : Dc kC13 8 (.getfield 9) 3 := by decide +kernel
theorem e14_11 : Dc kC13 11 (.iload_n 1) 1 := by decide +kernel
theorem e14_12 : Dc kC13 12 (.invokestatic 495) 3 := by decide +kernel
theorem wd246 (hw : HW a0 Z) : BW a0 Z (.code ⟨sT5, "charAt", "([BI)C"⟩ kC47 (2 : Nat) (Option.some Jvm.ClassFile.FieldType.char)) := wat hw 246 rfl
theorem pd19 : parseMethodDescriptor "([BI)C" = some ⟨[(.array .byte), .int], some .char⟩ := by decide +kernel
theorem wd244 (hw : HW a0 Z) : BW a0 Z (.methodLink sT0 (495 : Nat) ⟨sT5, "charAt", "([BI)C"⟩) := wat hw 244 rfl
theorem wd245 (hw : HW a0 Z) : BW a0 Z (.static ⟨sT5, "charAt", "([BI)C"⟩) := wat hw 245 rfl
theorem e14_15 : Dc kC13 15 .ireturn 1 := by decide +kernel
def Q_sca (Z : State) (zC : Int32) (vF : Value) (a1 t : Addr) (kb : ClassId) (cs : List Int32) (n px : Nat) (h0 : Heap) (v : Option Value) (h : Heap) (L : List Loc) : Prop := ∃ (yc : Int32), v = some (.int yc) ∧ Fr Z.heap.size L ∧ h = h0 ∧ (yc = cs.getD px 0) ∧ (¬ (yc < (0 : Int32))) ∧ (¬ ((255 : Int32) < yc))
theorem rm_sca (l : Launch) (Z : State) (a0 : Array Value) (hw : HW a0 Z) (zC : Int32) (vF : Value) (G : GB l a0 Z zC vF) (a1 t : Addr) (kb : ClassId) (cs : List Int32) (n px : Nat) (h0 : Heap) (O0 : Old Z Z.heap.size h0) (Pe : Exa Z h0 a1 sT0) (Pc : Fld Z h0 a1 sT0 "coder" "B" (iv 0)) (Pv : Fld Z h0 a1 sT0 "value" "[B" (.ref t)) (PB : Arv Z h0 t kb .byte (Int32.ofNat n) (cs.map lo8V) (.int 0)) (Hn : (cs.length = n)) (Hm : (n ≤ 6)) (Hr : (ALL cs)) (Hx : (px < n)) :
    Con l Z (⟨sT0, "charAt", "(I)C"⟩ : MethodName) kC13 2 (some .char) ({ frames := 3, cells := 0, slots := 0, locals := 40 } : Room) #[(.ref a1), (.int (Int32.ofNat px))] h0 (Q_sca Z zC vF a1 t kb cs n px h0) := by
 refine Con.intro (plainFor_of_name pn0) ?_
 intro p e s m below meth c T0 X0 hx Y hml hown0 hnm hret hlk hZ0 e0
 have N0 := Fr.nil Z.heap.size
 refine castGo (g' := mkF m 0 #[vr a1, vi (Int32.ofNat px)] []) (by first | rfl | (simp [entryFrame, mkF, argsToLocals, Value.category]; done)) ?_
 show Go _ _ _ _ (T0.setTop (mkF m 0 #[vr a1, vi (Int32.ofNat px)] []))
 refine aL X0 hx (hb Y e14_0) (q := 1) rfl rfl rfl ?_
 refine g_vi X0 hx hZ0 hown0 (wd92 hw) (wd93 hw) (notFace_of_selects (args := #[]) (mvT hZ0 (wd95 hw))) (wd95 hw) (wd94 hw) (by decide) Pe e0 (Con.back (W := 0) (rm_isl0 l Z a0 hw zC vF G a1 h0 O0 Pc) hZ0 (wd96 hw) (wd9 hw) (by decide) (by decide)) (by rw [hml]; rfl) (lenOf pd4 rfl) rfl (Nat.le_of_eq rfl) (hb Y e14_1) (q := 4) rfl (by decide) (by decide) ?_
 intro v21 T21 L21 X21 Q21
 obtain ⟨rfl, Nq21, e21⟩ := Q21
 have N21 := Fr.app N0 Nq21
 show Go _ _ _ _ (T21.setTop (mkF m 4 _ [(iv 1)]))
 refine ifN X21 hx (hb Y e14_4) (q := 7) rfl (by decide) ?_
 refine aL X21 hx (hb Y e14_7) (q := 8) rfl rfl rfl ?_
 refine g_getF X21 hx hZ0 hown0 (host := "") (Or.inl (wd53 hw)) Via.refl Pv e21 (hb Y e14_8) (q := 11) rfl ?_
 intro T22 X22 e22
 refine iL X22 hx (hb Y e14_11) (q := 12) rfl rfl ?_
 refine g_st X22 hx hZ0 hown0 (wd244 hw) (wd245 hw) (wd99 hw) (wd246 hw) (by decide) e22 (Con.back (W := 0) (rm_lca l Z a0 hw zC vF G t kb cs n px h0 O0 PB Hn Hm Hr Hx) hZ0 (wd246 hw) (wd99 hw) (by decide) (by decide)) (by rw [hml]; rfl) (lenOf pd19 rfl) rfl (Nat.le_of_eq rfl) (hb Y e14_12) (q := 15) rfl (by decide) (by decide) ?_
 intro v23 T23 L23 X23 Q23
 obtain ⟨yc_23, rfl, Nq23, e23, q23_0, q23_1, q23_2⟩ := Q23
 have N23 := Fr.app N21 Nq23
 show Go _ _ _ _ (T23.setTop (mkF m 15 _ [(.int yc_23)]))
 refine endP X23 hlk (fun h => by rw [hret] at h; cases h) (lastN X23 hx (t := .char) (z' := yc_23) hret (by simp) (nar_of255 q23_1 q23_2) (hb Y e14_15)) ?_ (by decide) (by decide)
 rw [e23]
 exact ⟨yc_23, rfl, N23, rfl, q23_0, q23_1, q23_2⟩
theorem e42_0 : Dc kC48 0 (.aload_n 0) 1 := by decide +kernel
theorem e42_1 : Dc kC48 1 (.invokespecial 3) 3 := by decide +kernel
theorem wd233 (hw : HW a0 Z) : BW a0 Z (.methodLink sT1 (3 : Nat) ⟨"java/lang/Object", "<init>", "()V"⟩) := wat hw 233 rfl
theorem e42_4 : Dc kC48 4 (.getstatic 18) 3 := by decide +kernel
theorem wd234 (hw : HW a0 Z) : BW a0 Z (.fieldLink sT1 (18 : Nat) sT0 "COMPACT_STRINGS" "Z") := wat hw 234 rfl
theorem e42_7 : Dc kC48 7 (.ifCond .eq 18) 3 := by decide +kernel
theorem e42_10 : Dc kC48 10 (.aload_n 0) 1 := by decide +kernel
theorem e42_11 : Dc kC48 11 (.iload_n 1) 1 := by decide +kernel
theorem e42_12 : Dc kC48 12 (.newarray .byte) 2 := by decide +kernel
theorem e42_14 : Dc kC48 14 (.putfield 15) 3 := by decide +kernel
theorem wd235 (hw : HW a0 Z) : BW a0 Z (.fieldLink sT1 (15 : Nat) sT1 "value" "[B") := wat hw 235 rfl
theorem wd236 (hw : HW a0 Z) : BW a0 Z (.lays sT4 sT1 "value" "[B") := wat hw 236 rfl
theorem wd222 (hw : HW a0 Z) : BW a0 Z (.instantiable sT4 (4 : Nat)) := wat hw 222 rfl
theorem e42_17 : Dc kC48 17 (.aload_n 0) 1 := by decide +kernel
theorem e42_18 : Dc kC48 18 (.iconst 0) 1 := by decide +kernel
theorem e42_19 : Dc kC48 19 (.putfield 22) 3 := by decide +kernel
theorem wd237 (hw : HW a0 Z) : BW a0 Z (.fieldLink sT1 (22 : Nat) sT1 "coder" "B") := wat hw 237 rfl
theorem wd238 (hw : HW a0 Z) : BW a0 Z (.lays sT4 sT1 "coder" "B") := wat hw 238 rfl
theorem e42_22 : Dc kC48 22 (.goto 16) 3 := by decide +kernel
theorem e42_38 : Dc kC48 38 .return_ 1 := by decide +kernel
theorem wd264 (hw : HW a0 Z) : BW a0 Z (.lays sT4 sT1 "count" "I") := wat hw 264 rfl
def Q_asbinit (Z : State) (zC : Int32) (vF : Value) (a1 : Addr) (pz : Nat) (h0 : Heap) (v : Option Value) (h : Heap) (L : List Loc) : Prop := ∃ (vv : Addr), ∃ (kv : ClassId), v = none ∧ Fr Z.heap.size L ∧ Keep h0 h [a1] ∧ Exa Z h a1 "java/lang/StringBuilder" ∧ Fld Z h a1 sT1 "value" "[B" (.ref vv) ∧ Fld Z h a1 sT1 "coder" "B" (iv 0) ∧ Fld Z h a1 sT1 "count" "I" (iv 0) ∧ h0.size ≤ vv ∧ Arv Z h vv kv .byte (Int32.ofNat pz) (List.replicate pz (.int 0)) (.int 0) ∧ Exa Z h vv "[B"
theorem pn7 : plainName "java/lang/AbstractStringBuilder" = true := by first | (simp [plainName, overriddenIn]; done) | decide +kernel
theorem rm_asbinit (l : Launch) (Z : State) (a0 : Array Value) (hw : HW a0 Z) (zC : Int32) (vF : Value) (G : GB l a0 Z zC vF) (a1 : Addr) (pz : Nat) (h0 : Heap) (O0 : Old Z Z.heap.size h0) (P1 : Exa Z h0 a1 "java/lang/StringBuilder") (P2 : Fld Z h0 a1 sT1 "value" "[B" .null) (P3 : Fld Z h0 a1 sT1 "coder" "B" (iv 0)) (P4 : Fld Z h0 a1 sT1 "count" "I" (iv 0)) (P5 : Z.heap.size ≤ a1) (Hz : (pz ≤ 6)) :
    Con l Z (⟨sT1, "<init>", "(I)V"⟩ : MethodName) kC48 2 none ({ frames := 1, cells := 1, slots := 6, locals := 12 } : Room) #[(.ref a1), (.int (Int32.ofNat pz))] h0 (Q_asbinit Z zC vF a1 pz h0) := by
 obtain ⟨SC, PC, rF, SF⟩ := id G
 refine Con.intro (plainFor_of_name pn7) ?_
 intro p e s m below meth c T0 X0 hx Y hml hown0 hnm hret hlk hZ0 e0
 have N0 := Fr.nil Z.heap.size
 refine castGo (g' := mkF m 0 #[vr a1, vi (Int32.ofNat pz)] []) (by first | rfl | (simp [entryFrame, mkF, argsToLocals, Value.category]; done)) ?_
 show Go _ _ _ _ (T0.setTop (mkF m 0 #[vr a1, vi (Int32.ofNat pz)] []))
 refine aL X0 hx (hb Y e42_0) (q := 1) rfl rfl rfl ?_
 refine g_init0 X0 hx hZ0 hown0 (wd233 hw) (wd37 hw) (wd38 hw) (by rw [hml]; rfl) (by decide) (W := 0) (Nat.le_of_eq rfl) (by decide) e0 (hb Y e42_1) (q := 4) rfl ?_
 intro T21 X21 e21
 refine g_getS X21 hx hZ0 hown0 (host := "") (Or.inl (wd234 hw)) Via.refl (SC.ext O0.2) e21 (hb Y e42_4) (q := 7) rfl ?_
 intro T22 X22 e22
 refine ifN X22 hx (hb Y e42_7) (q := 10) rfl ((if0 _ _).trans (feq PC).1) ?_
 refine aL X22 hx (hb Y e42_10) (q := 11) rfl rfl rfl ?_
 refine iL X22 hx (hb Y e42_11) (q := 12) rfl rfl ?_
 refine g_newE X22 hx hZ0 (aty := .byte) (wd11 hw) (on_nn (show pz < 2147483648 from by omega)) (n := pz) (on_clamp (show pz < 2147483648 from by omega)) (by omega) (by decide) (Nat.le_trans (show 0 + pz ≤ 6 from by omega) (by decide)) (ad := "[B") (by decide) e22 (hb Y e42_12) (q := 14) rfl ?_
 intro T23 h23 k23 b23 g23 X23q e23 E23 V23 G23
 have X23 := X23q.more (Nat.le_refl _) (show 0 + pz ≤ 6 from by omega)
 show Go _ _ _ _ (T23.setTop (mkF m 14 #[vr a1, vi (Int32.ofNat pz)] [(.ref b23), (.ref a1)]))
 have f24 := P2.ext E23
 have f25 := P1.ext E23
 refine g_putF X23 hx hZ0 hown0 (host := "") (Or.inl (wd235 hw)) Via.refl f24 f25 (Or.inl (wd236 hw)) (wd222 hw) (ty := (.array .byte)) (by decide) rfl rfl e23 (hb Y e42_14) (q := 17) rfl ?_
 intro T26 h26 X26 e26 W26
 have N26 := Fr.snoc X26 N0 P5
 have Fw26 : Fld Z h26 a1 sT1 "value" "[B" (.ref b23) := f24.same W26
 refine aL X26 hx (hb Y e42_17) (q := 18) rfl rfl rfl ?_
 refine cI X26 hx (hb Y e42_18) (q := 19) rfl (z := 0) rfl ?_
 have f27 := P3.ext E23
 have f28 := f27.other W26 (Or.inr (slot_ne (Or.inl (wd238 hw)) (Or.inl (wd236 hw)) (by decide) (t := .byte) (t' := (.array .byte)) (by decide) (by decide)))
 have f29 := f25.wr W26
 refine g_putF X26 hx hZ0 hown0 (host := "") (Or.inl (wd237 hw)) Via.refl f28 f29 (Or.inl (wd238 hw)) (wd222 hw) (ty := .byte) (by decide) rfl rfl e26 (hb Y e42_19) (q := 22) rfl ?_
 intro T30 h30 X30 e30 W30
 have N30 := Fr.snoc X30 N26 P5
 have Fw30 : Fld Z h30 a1 sT1 "coder" "B" (iv 0) := f28.same W30
 refine g_goto X30 hx (hb Y e42_22) (q := 38) (by decide) (by decide) ?_
 have K31 : Keep h0 h23 [a1] := (Keep.refl h0 [a1]).ext E23
 have K32 : Keep h0 h26 [a1] := K31.wr W26 (Or.inl (by simp))
 have K33 : Keep h0 h30 [a1] := K32.wr W30 (Or.inl (by simp))
 have f34 := f29.wr W30
 have f35 := Fw26.other W30 (Or.inr (slot_ne (Or.inl (wd236 hw)) (Or.inl (wd238 hw)) (by decide) (t := (.array .byte)) (t' := .byte) (by decide) (by decide)))
 have f36 := P4.ext E23
 have f37 := f36.other W26 (Or.inr (slot_ne (Or.inl (wd264 hw)) (Or.inl (wd236 hw)) (by decide) (t := .int) (t' := (.array .byte)) (by decide) (by decide)))
 have f38 := f37.other W30 (Or.inr (slot_ne (Or.inl (wd264 hw)) (Or.inl (wd238 hw)) (by decide) (t := .int) (t' := .byte) (by decide) (by decide)))
 have gh39 : h0.size ≤ b23 := Nat.le_trans (Nat.le_refl _) (Nat.le_of_eq g23.symm)
 have ne40 : b23 ≠ a1 := (Nat.ne_of_gt (Nat.lt_of_lt_of_le (Nat.lt_of_lt_of_le P1.lt (Nat.le_refl _)) (Nat.le_of_eq g23.symm)))
 have f41 := V23.other W26 ne40
 have f42 := f41.other W30 ne40
 have f43 := G23.wr W26
 have f44 := f43.wr W30
 refine endP X30 hlk (fun _ => rfl) (lastV X30 hx hret (hb Y e42_38)) ?_ (by decide) (by decide)
 rw [e30]
 exact ⟨b23, k23, rfl, N30, K33, f34, f35, Fw30, f38, gh39, f42, f44⟩
theorem e39_0 : Dc kC50 0 (.aload_n 0) 1 := by decide +kernel
theorem e39_1 : Dc kC50 1 (.iload_n 1) 1 := by decide +kernel
theorem e39_2 : Dc kC50 2 (.invokespecial 1) 3 := by decide +kernel
theorem wd232 (hw : HW a0 Z) : BW a0 Z (.code ⟨sT1, "<init>", "(I)V"⟩ kC48 (2 : Nat) (Option.none : Option Jvm.ClassFile.FieldType)) := wat hw 232 rfl
theorem wd231 (hw : HW a0 Z) : BW a0 Z (.initialized sT1) := wat hw 231 rfl
theorem pd20 : parseMethodDescriptor "(I)V" = some ⟨[.int], none⟩ := by decide +kernel
theorem wd227 (hw : HW a0 Z) : BW a0 Z (.methodLink sT4 (1 : Nat) ⟨sT1, "<init>", "(I)V"⟩) := wat hw 227 rfl
theorem wd228 (hw : HW a0 Z) : BW a0 Z (.instanceMethod ⟨sT1, "<init>", "(I)V"⟩) := wat hw 228 rfl
theorem e39_5 : Dc kC50 5 .return_ 1 := by decide +kernel
def Q_sbinit (Z : State) (zC : Int32) (vF : Value) (a1 : Addr) (pz : Nat) (h0 : Heap) (v : Option Value) (h : Heap) (L : List Loc) : Prop := ∃ (vv : Addr), ∃ (kv : ClassId), v = none ∧ Fr Z.heap.size L ∧ Keep h0 h [a1] ∧ Exa Z h a1 "java/lang/StringBuilder" ∧ Fld Z h a1 sT1 "value" "[B" (.ref vv) ∧ Fld Z h a1 sT1 "coder" "B" (iv 0) ∧ Fld Z h a1 sT1 "count" "I" (iv 0) ∧ h0.size ≤ vv ∧ Arv Z h vv kv .byte (Int32.ofNat pz) (List.replicate pz (.int 0)) (.int 0) ∧ Exa Z h vv "[B"
theorem pn8 : plainName "java/lang/StringBuilder" = true := by first | (simp [plainName, overriddenIn]; done) | decide +kernel
theorem rm_sbinit (l : Launch) (Z : State) (a0 : Array Value) (hw : HW a0 Z) (zC : Int32) (vF : Value) (G : GB l a0 Z zC vF) (a1 : Addr) (pz : Nat) (h0 : Heap) (O0 : Old Z Z.heap.size h0) (P1 : Exa Z h0 a1 "java/lang/StringBuilder") (P2 : Fld Z h0 a1 sT1 "value" "[B" .null) (P3 : Fld Z h0 a1 sT1 "coder" "B" (iv 0)) (P4 : Fld Z h0 a1 sT1 "count" "I" (iv 0)) (P5 : Z.heap.size ≤ a1) (Hz : (pz ≤ 6)) :
    Con l Z (⟨"java/lang/StringBuilder", "<init>", "(I)V"⟩ : MethodName) kC50 2 none ({ frames := 2, cells := 1, slots := 6, locals := 25 } : Room) #[(.ref a1), (.int (Int32.ofNat pz))] h0 (Q_sbinit Z zC vF a1 pz h0) := by
 refine Con.intro (plainFor_of_name pn8) ?_
 intro p e s m below meth c T0 X0 hx Y hml hown0 hnm hret hlk hZ0 e0
 have N0 := Fr.nil Z.heap.size
 refine castGo (g' := mkF m 0 #[vr a1, vi (Int32.ofNat pz)] []) (by first | rfl | (simp [entryFrame, mkF, argsToLocals, Value.category]; done)) ?_
 show Go _ _ _ _ (T0.setTop (mkF m 0 #[vr a1, vi (Int32.ofNat pz)] []))
 refine aL X0 hx (hb Y e39_0) (q := 1) rfl rfl rfl ?_
 refine iL X0 hx (hb Y e39_1) (q := 2) rfl rfl ?_
 refine g_sp X0 hx hZ0 hown0 (wd227 hw) (wd228 hw) (wd232 hw) rfl (by decide) e0 (Con.back (W := 0) (rm_asbinit l Z a0 hw zC vF G a1 pz h0 O0 P1 P2 P3 P4 P5 Hz) hZ0 (wd232 hw) (wd231 hw) (by decide) (by decide)) (by rw [hml]; rfl) (lenOf pd20 rfl) rfl (Nat.le_of_eq rfl) (hb Y e39_2) (q := 5) rfl (by decide) (by decide) ?_
 intro v21 T21 L21 X21 Q21
 obtain ⟨vv_21, kv_21, rfl, Nq21, K21q, q21_0, q21_1, q21_2, q21_3, q21_4, q21_5, q21_6⟩ := Q21
 have N21 := Fr.app N0 Nq21
 show Go _ _ _ _ (T21.setTop (mkF m 5 _ []))
 have K22 : Keep h0 T21.heap [a1] := (Keep.refl h0 [a1]).trans K21q (allS (Or.inl (by simp)) all0)
 have gh23 : h0.size ≤ vv_21 := Nat.le_trans (Nat.le_refl _) q21_4
 refine endP X21 hlk (fun _ => rfl) (lastV X21 hx hret (hb Y e39_5)) ?_ (by decide) (by decide)
 exact ⟨vv_21, kv_21, rfl, N21, K22, q21_0, q21_1, q21_2, q21_3, gh23, q21_5, q21_6⟩
theorem e46_0 : Dc kC10 0 (.getstatic 18) 3 := by decide +kernel
theorem e46_3 : Dc kC10 3 (.ifCond .eq 14) 3 := by decide +kernel
theorem e46_6 : Dc kC10 6 (.aload_n 0) 1 := by decide +kernel
theorem e46_7 : Dc kC10 7 (.getfield 22) 3 := by decide +kernel
theorem e46_10 : Dc kC10 10 (.ifCond .ne 7) 3 := by decide +kernel
theorem e46_13 : Dc kC10 13 (.iconst 1) 1 := by decide +kernel
theorem e46_14 : Dc kC10 14 (.goto 4) 3 := by decide +kernel
theorem e46_18 : Dc kC10 18 .ireturn 1 := by decide +kernel
def Q_isa (Z : State) (zC : Int32) (vF : Value) (a1 : Addr) (h0 : Heap) (v : Option Value) (h : Heap) (L : List Loc) : Prop := v = some (iv 1) ∧ Fr Z.heap.size L ∧ h = h0
theorem rm_isa (l : Launch) (Z : State) (a0 : Array Value) (hw : HW a0 Z) (zC : Int32) (vF : Value) (G : GB l a0 Z zC vF) (a1 : Addr) (h0 : Heap) (O0 : Old Z Z.heap.size h0) (P1 : Fld Z h0 a1 sT1 "coder" "B" (iv 0)) :
    Con l Z (⟨sT1, "isLatin1", "()Z"⟩ : MethodName) kC10 1 (some .boolean) ({ frames := 0, cells := 0, slots := 0, locals := 0 } : Room) #[(.ref a1)] h0 (Q_isa Z zC vF a1 h0) := by
 obtain ⟨SC, PC, rF, SF⟩ := id G
 refine Con.intro (plainFor_of_name pn7) ?_
 intro p e s m below meth c T0 X0 hx Y hml hown0 hnm hret hlk hZ0 e0
 have N0 := Fr.nil Z.heap.size
 refine castGo (g' := mkF m 0 #[vr a1] []) (by first | rfl | (simp [entryFrame, mkF, argsToLocals, Value.category]; done)) ?_
 show Go _ _ _ _ (T0.setTop (mkF m 0 #[vr a1] []))
 refine g_getS X0 hx hZ0 hown0 (host := "") (Or.inl (wd234 hw)) Via.refl (SC.ext O0.2) e0 (hb Y e46_0) (q := 3) rfl ?_
 intro T21 X21 e21
 refine ifN X21 hx (hb Y e46_3) (q := 6) rfl ((if0 _ _).trans (feq PC).1) ?_
 refine aL X21 hx (hb Y e46_6) (q := 7) rfl rfl rfl ?_
 refine g_getF X21 hx hZ0 hown0 (host := "") (Or.inl (wd237 hw)) Via.refl P1 e21 (hb Y e46_7) (q := 10) rfl ?_
 intro T22 X22 e22
 refine ifN X22 hx (hb Y e46_10) (q := 13) rfl (by decide) ?_
 refine cI X22 hx (hb Y e46_13) (q := 14) rfl (z := 1) rfl ?_
 refine g_goto X22 hx (hb Y e46_14) (q := 18) (by decide) (by decide) ?_
 refine endP X22 hlk (fun h => by rw [hret] at h; cases h) (lastN X22 hx (t := .boolean) (z' := (1 : Int32)) hret (by simp) (by decide) (hb Y e46_18)) ?_ (by decide) (by decide)
 rw [e22]
 exact ⟨rfl, N0, rfl⟩
theorem e31_0 : Dc kC44 0 (.iload_n 0) 1 := by decide +kernel
theorem e31_1 : Dc kC44 1 (.sipush 255) 3 := by decide +kernel
theorem e31_4 : Dc kC44 4 (.if_icmp .gt 7) 3 := by decide +kernel
theorem e31_7 : Dc kC44 7 (.iconst 1) 1 := by decide +kernel
theorem e31_8 : Dc kC44 8 (.goto 4) 3 := by decide +kernel
theorem e31_12 : Dc kC44 12 .ireturn 1 := by decide +kernel
def Q_cec (Z : State) (zC : Int32) (vF : Value) (ch : Int32) (h0 : Heap) (v : Option Value) (h : Heap) (L : List Loc) : Prop := v = some (iv 1) ∧ Fr Z.heap.size L ∧ h = h0
theorem rm_cec (l : Launch) (Z : State) (a0 : Array Value) (hw : HW a0 Z) (zC : Int32) (vF : Value) (G : GB l a0 Z zC vF) (ch : Int32) (h0 : Heap) (O0 : Old Z Z.heap.size h0) (Hc : (¬ (ch < (0 : Int32)))) (Jc : (¬ ((255 : Int32) < ch))) :
    Con l Z (⟨"java/lang/StringLatin1", "canEncode", "(C)Z"⟩ : MethodName) kC44 1 (some .boolean) ({ frames := 0, cells := 0, slots := 0, locals := 0 } : Room) #[(.int ch)] h0 (Q_cec Z zC vF ch h0) := by
 refine Con.intro (plainFor_of_name pn2) ?_
 intro p e s m below meth c T0 X0 hx Y hml hown0 hnm hret hlk hZ0 e0
 have N0 := Fr.nil Z.heap.size
 refine castGo (g' := mkF m 0 #[vi ch] []) (by first | rfl | (simp [entryFrame, mkF, argsToLocals, Value.category]; done)) ?_
 show Go _ _ _ _ (T0.setTop (mkF m 0 #[vi ch] []))
 refine iL X0 hx (hb Y e31_0) (q := 1) rfl rfl ?_
 refine pI X0 hx (hb Y e31_1) (q := 4) rfl (z := 255) rfl ?_
 refine icN X0 hx (hb Y e31_4) (q := 7) rfl (flt Jc).2.2.1 ?_
 refine cI X0 hx (hb Y e31_7) (q := 8) rfl (z := 1) rfl ?_
 refine g_goto X0 hx (hb Y e31_8) (q := 12) (by decide) (by decide) ?_
 refine endP X0 hlk (fun h => by rw [hret] at h; cases h) (lastN X0 hx (t := .boolean) (z' := (1 : Int32)) hret (by simp) (by decide) (hb Y e31_12)) ?_ (by decide) (by decide)
 rw [e0]
 exact ⟨rfl, N0, rfl⟩
theorem ens_le {a b : Nat} (ha : a < 1000) (hb : b < 1000) (h : a ≤ b) : ¬ (0 : Int32) < Int32.ofNat a - Int32.ofNat b := by
  have h2 := c_isub (Int32.ofNat a) (Int32.ofNat b)
  have r2 := rng32 (Int32.ofNat a - Int32.ofNat b)
  have e0 : (0 : Int32).toInt = 0 := by decide
  rw [on_int (i := a) (by omega), on_int (i := b) (by omega)] at h2
  rw [Int32.lt_iff_toInt_lt, e0]
  omega
theorem e47_0 : Dc kC51 0 (.aload_n 0) 1 := by decide +kernel
theorem e47_1 : Dc kC51 1 (.getfield 15) 3 := by decide +kernel
theorem e47_4 : Dc kC51 4 .arraylength 1 := by decide +kernel
theorem e47_5 : Dc kC51 5 (.aload_n 0) 1 := by decide +kernel
theorem e47_6 : Dc kC51 6 (.getfield 22) 3 := by decide +kernel
theorem e47_9 : Dc kC51 9 .ishr 1 := by decide +kernel
theorem e47_10 : Dc kC51 10 (.istore_n 2) 1 := by decide +kernel
theorem e47_11 : Dc kC51 11 (.iload_n 1) 1 := by decide +kernel
theorem e47_12 : Dc kC51 12 (.iload_n 2) 1 := by decide +kernel
theorem e47_13 : Dc kC51 13 .isub 1 := by decide +kernel
theorem e47_14 : Dc kC51 14 (.ifCond .le 24) 3 := by decide +kernel
theorem e47_38 : Dc kC51 38 .return_ 1 := by decide +kernel
def Q_ens (Z : State) (zC : Int32) (vF : Value) (a1 vv : Addr) (kv : ClassId) (vd : List Value) (pz pm : Nat) (h0 : Heap) (v : Option Value) (h : Heap) (L : List Loc) : Prop := v = none ∧ Fr Z.heap.size L ∧ h = h0
theorem rm_ens (l : Launch) (Z : State) (a0 : Array Value) (hw : HW a0 Z) (zC : Int32) (vF : Value) (G : GB l a0 Z zC vF) (a1 vv : Addr) (kv : ClassId) (vd : List Value) (pz pm : Nat) (h0 : Heap) (O0 : Old Z Z.heap.size h0) (Qe : Exa Z h0 a1 "java/lang/StringBuilder") (Qc : Fld Z h0 a1 sT1 "coder" "B" (iv 0)) (Qv : Fld Z h0 a1 sT1 "value" "[B" (.ref vv)) (Qa : Arv Z h0 vv kv .byte (Int32.ofNat pz) vd (.int 0)) (Hm : (pm ≤ pz)) (Hz : (pz ≤ 6)) :
    Con l Z (⟨sT1, "ensureCapacityInternal", "(I)V"⟩ : MethodName) kC51 3 none ({ frames := 0, cells := 0, slots := 0, locals := 0 } : Room) #[(.ref a1), (.int (Int32.ofNat pm))] h0 (Q_ens Z zC vF a1 vv kv vd pz pm h0) := by
 refine Con.intro (plainFor_of_name pn7) ?_
 intro p e s m below meth c T0 X0 hx Y hml hown0 hnm hret hlk hZ0 e0
 have N0 := Fr.nil Z.heap.size
 refine castGo (g' := mkF m 0 #[vr a1, vi (Int32.ofNat pm), uS] []) (by first | rfl | (simp [entryFrame, mkF, argsToLocals, Value.category]; done)) ?_
 show Go _ _ _ _ (T0.setTop (mkF m 0 #[vr a1, vi (Int32.ofNat pm), uS] []))
 refine aL X0 hx (hb Y e47_0) (q := 1) rfl rfl rfl ?_
 refine g_getF X0 hx hZ0 hown0 (host := "") (Or.inl (wd235 hw)) Via.refl Qv e0 (hb Y e47_1) (q := 4) rfl ?_
 intro T21 X21 e21
 refine g_len X21 hx hZ0 Qa e21 (hb Y e47_4) (q := 5) rfl ?_
 refine aL X21 hx (hb Y e47_5) (q := 6) rfl rfl rfl ?_
 refine g_getF X21 hx hZ0 hown0 (host := "") (Or.inl (wd237 hw)) Via.refl Qc e21 (hb Y e47_6) (q := 9) rfl ?_
 intro T22 X22 e22
 refine g_ishr X22 hx (hb Y e47_9) (q := 10) rfl (z := (Int32.ofNat pz)) (shr_zero _) ?_
 refine sI X22 hx (hb Y e47_10) (q := 11) rfl (Ls' := #[vr a1, vi (Int32.ofNat pm), vi (Int32.ofNat pz)]) rfl ?_
 refine iL X22 hx (hb Y e47_11) (q := 12) rfl rfl ?_
 refine iL X22 hx (hb Y e47_12) (q := 13) rfl rfl ?_
 refine g_isub X22 hx (hb Y e47_13) (q := 14) rfl rfl ?_
 refine ifY X22 hx (hb Y e47_14) (q := 38) (by decide) (by decide) ((if0 _ _).trans (flt (ens_le (by omega) (by omega) Hm)).2.2.2) ?_
 refine endP X22 hlk (fun _ => rfl) (lastV X22 hx hret (hb Y e47_38)) ?_ (by decide) (by decide)
 rw [e22]
 exact ⟨rfl, N0, rfl⟩
theorem e43_0 : Dc kC37 0 (.aload_n 0) 1 := by decide +kernel
theorem e43_1 : Dc kC37 1 (.aload_n 0) 1 := by decide +kernel
theorem e43_2 : Dc kC37 2 (.getfield 79) 3 := by decide +kernel
theorem wd263 (hw : HW a0 Z) : BW a0 Z (.fieldLink sT1 (79 : Nat) sT1 "count" "I") := wat hw 263 rfl
theorem e43_5 : Dc kC37 5 (.iconst 1) 1 := by decide +kernel
theorem e43_6 : Dc kC37 6 .iadd 1 := by decide +kernel
theorem e43_7 : Dc kC37 7 (.invokevirtual 100) 3 := by decide +kernel
theorem wd269 (hw : HW a0 Z) : BW a0 Z (.code ⟨sT1, "ensureCapacityInternal", "(I)V"⟩ kC51 (3 : Nat) (Option.none : Option Jvm.ClassFile.FieldType)) := wat hw 269 rfl
theorem wd265 (hw : HW a0 Z) : BW a0 Z (.methodLink sT1 (100 : Nat) ⟨sT1, "ensureCapacityInternal", "(I)V"⟩) := wat hw 265 rfl
theorem wd266 (hw : HW a0 Z) : BW a0 Z (.instanceMethod ⟨sT1, "ensureCapacityInternal", "(I)V"⟩) := wat hw 266 rfl
theorem wd268 (hw : HW a0 Z) : BW a0 Z (.selects sT4 ⟨sT1, "ensureCapacityInternal", "(I)V"⟩ ⟨sT1, "ensureCapacityInternal", "(I)V"⟩) := wat hw 268 rfl
theorem wd267 (hw : HW a0 Z) : BW a0 Z (.privateMethod ⟨sT1, "ensureCapacityInternal", "(I)V"⟩) := wat hw 267 rfl
theorem e43_10 : Dc kC37 10 (.aload_n 0) 1 := by decide +kernel
theorem e43_11 : Dc kC37 11 (.invokevirtual 83) 3 := by decide +kernel
theorem wd274 (hw : HW a0 Z) : BW a0 Z (.code ⟨sT1, "isLatin1", "()Z"⟩ kC10 (1 : Nat) (Option.some Jvm.ClassFile.FieldType.boolean)) := wat hw 274 rfl
theorem wd273 (hw : HW a0 Z) : BW a0 Z (.selects sT4 ⟨sT1, "isLatin1", "()Z"⟩ ⟨sT1, "isLatin1", "()Z"⟩) := wat hw 273 rfl
theorem wd270 (hw : HW a0 Z) : BW a0 Z (.methodLink sT1 (83 : Nat) ⟨sT1, "isLatin1", "()Z"⟩) := wat hw 270 rfl
theorem wd271 (hw : HW a0 Z) : BW a0 Z (.declares ⟨sT1, "isLatin1", "()Z"⟩) := wat hw 271 rfl
theorem wd272 (hw : HW a0 Z) : BW a0 Z (.instanceMethod ⟨sT1, "isLatin1", "()Z"⟩) := wat hw 272 rfl
theorem e43_14 : Dc kC37 14 (.ifCond .eq 31) 3 := by decide +kernel
theorem e43_17 : Dc kC37 17 (.iload_n 1) 1 := by decide +kernel
theorem e43_18 : Dc kC37 18 (.invokestatic 191) 3 := by decide +kernel
theorem wd277 (hw : HW a0 Z) : BW a0 Z (.code ⟨sT5, "canEncode", "(C)Z"⟩ kC44 (1 : Nat) (Option.some Jvm.ClassFile.FieldType.boolean)) := wat hw 277 rfl
theorem pd21 : parseMethodDescriptor "(C)Z" = some ⟨[.char], some .boolean⟩ := by decide +kernel
theorem wd275 (hw : HW a0 Z) : BW a0 Z (.methodLink sT1 (191 : Nat) ⟨sT5, "canEncode", "(C)Z"⟩) := wat hw 275 rfl
theorem wd276 (hw : HW a0 Z) : BW a0 Z (.static ⟨sT5, "canEncode", "(C)Z"⟩) := wat hw 276 rfl
theorem e43_21 : Dc kC37 21 (.ifCond .eq 24) 3 := by decide +kernel
theorem e43_24 : Dc kC37 24 (.aload_n 0) 1 := by decide +kernel
theorem e43_25 : Dc kC37 25 (.getfield 15) 3 := by decide +kernel
theorem e43_28 : Dc kC37 28 (.aload_n 0) 1 := by decide +kernel
theorem e43_29 : Dc kC37 29 .dup 1 := by decide +kernel
theorem e43_30 : Dc kC37 30 (.getfield 79) 3 := by decide +kernel
theorem e43_33 : Dc kC37 33 .dup_x1 1 := by decide +kernel
theorem e43_34 : Dc kC37 34 (.iconst 1) 1 := by decide +kernel
theorem e43_35 : Dc kC37 35 .iadd 1 := by decide +kernel
theorem e43_36 : Dc kC37 36 (.putfield 79) 3 := by decide +kernel
theorem e43_39 : Dc kC37 39 (.iload_n 1) 1 := by decide +kernel
theorem e43_40 : Dc kC37 40 .i2b 1 := by decide +kernel
theorem e43_41 : Dc kC37 41 .bastore 1 := by decide +kernel
theorem e43_42 : Dc kC37 42 (.goto 33) 3 := by decide +kernel
theorem e43_75 : Dc kC37 75 (.aload_n 0) 1 := by decide +kernel
theorem e43_76 : Dc kC37 76 .areturn 1 := by decide +kernel
def Q_aac (Z : State) (zC : Int32) (vF : Value) (a1 vv : Addr) (kv : ClassId) (vd : List Value) (pz pc : Nat) (ch : Int32) (h0 : Heap) (v : Option Value) (h : Heap) (L : List Loc) : Prop := v = some (.ref a1) ∧ Fr Z.heap.size L ∧ Keep h0 h [a1, vv] ∧ Exa Z h a1 "java/lang/StringBuilder" ∧ Fld Z h a1 sT1 "coder" "B" (iv 0) ∧ Fld Z h a1 sT1 "count" "I" (.int (Int32.ofNat (pc + 1))) ∧ Fld Z h a1 sT1 "value" "[B" (.ref vv) ∧ Arv Z h vv kv .byte (Int32.ofNat pz) (vd.set pc (.int (StrChars.lo8 ch))) (.int 0)
theorem rm_aac (l : Launch) (Z : State) (a0 : Array Value) (hw : HW a0 Z) (zC : Int32) (vF : Value) (G : GB l a0 Z zC vF) (a1 vv : Addr) (kv : ClassId) (vd : List Value) (pz pc : Nat) (ch : Int32) (h0 : Heap) (O0 : Old Z Z.heap.size h0) (Qe : Exa Z h0 a1 "java/lang/StringBuilder") (Qc : Fld Z h0 a1 sT1 "coder" "B" (iv 0)) (Qn : Fld Z h0 a1 sT1 "count" "I" (.int (Int32.ofNat pc))) (Qv : Fld Z h0 a1 sT1 "value" "[B" (.ref vv)) (Qa : Arv Z h0 vv kv .byte (Int32.ofNat pz) vd (.int 0)) (Ql : (vd.length = pz)) (Hp : (pc < pz)) (Hz : (pz ≤ 6)) (Qz : Z.heap.size ≤ a1) (Qy : Z.heap.size ≤ vv) (Hc : (¬ (ch < (0 : Int32)))) (Jc : (¬ ((255 : Int32) < ch))) :
    Con l Z (⟨sT1, "append", "(C)Ljava/lang/AbstractStringBuilder;"⟩ : MethodName) kC37 2 (some (.object sT1)) ({ frames := 1, cells := 0, slots := 0, locals := 14 } : Room) #[(.ref a1), (.int ch)] h0 (Q_aac Z zC vF a1 vv kv vd pz pc ch h0) := by
 refine Con.intro (plainFor_of_name pn7) ?_
 intro p e s m below meth c T0 X0 hx Y hml hown0 hnm hret hlk hZ0 e0
 have N0 := Fr.nil Z.heap.size
 refine castGo (g' := mkF m 0 #[vr a1, vi ch] []) (by first | rfl | (simp [entryFrame, mkF, argsToLocals, Value.category]; done)) ?_
 show Go _ _ _ _ (T0.setTop (mkF m 0 #[vr a1, vi ch] []))
 refine aL X0 hx (hb Y e43_0) (q := 1) rfl rfl rfl ?_
 refine aL X0 hx (hb Y e43_1) (q := 2) rfl rfl rfl ?_
 refine g_getF X0 hx hZ0 hown0 (host := "") (Or.inl (wd263 hw)) Via.refl Qn e0 (hb Y e43_2) (q := 5) rfl ?_
 intro T21 X21 e21
 refine cI X21 hx (hb Y e43_5) (q := 6) rfl (z := 1) rfl ?_
 refine g_iadd X21 hx (hb Y e43_6) (q := 7) rfl (z := (Int32.ofNat (pc + 1))) (on_add (pc) 1) ?_
 refine g_pvC X21 hx hZ0 hown0 (wd265 hw) (wd266 hw) (wd268 hw) (wd267 hw) (wd269 hw) (by decide) Qe e21 (Con.back (W := 0) (rm_ens l Z a0 hw zC vF G a1 vv kv vd pz (pc + 1) h0 O0 Qe Qc Qv Qa (show (pc + 1) ≤ pz from by omega) Hz) hZ0 (wd269 hw) (wd231 hw) (by decide) (by decide)) (by rw [hml]; rfl) (lenOf pd20 rfl) rfl (Nat.le_of_eq rfl) (hb Y e43_7) (q := 10) rfl (by decide) (by decide) ?_
 intro v22 T22 L22 X22 Q22
 obtain ⟨rfl, Nq22, e22⟩ := Q22
 have N22 := Fr.app N0 Nq22
 show Go _ _ _ _ (T22.setTop (mkF m 10 _ []))
 refine aL X22 hx (hb Y e43_10) (q := 11) rfl rfl rfl ?_
 refine g_vi X22 hx hZ0 hown0 (wd270 hw) (wd271 hw) (notFace_of_selects (args := #[]) (mvT hZ0 (wd273 hw))) (wd273 hw) (wd272 hw) (by decide) Qe e22 (Con.back (W := 0) (rm_isa l Z a0 hw zC vF G a1 h0 O0 Qc) hZ0 (wd274 hw) (wd231 hw) (by decide) (by decide)) (by rw [hml]; rfl) (lenOf pd4 rfl) rfl (Nat.le_of_eq rfl) (hb Y e43_11) (q := 14) rfl (by decide) (by decide) ?_
 intro v23 T23 L23 X23 Q23
 obtain ⟨rfl, Nq23, e23⟩ := Q23
 have N23 := Fr.app N22 Nq23
 show Go _ _ _ _ (T23.setTop (mkF m 14 _ [(iv 1)]))
 refine ifN X23 hx (hb Y e43_14) (q := 17) rfl (by decide) ?_
 refine iL X23 hx (hb Y e43_17) (q := 18) rfl rfl ?_
 refine g_st X23 hx hZ0 hown0 (wd275 hw) (wd276 hw) (wd99 hw) (wd277 hw) (by decide) e23 (Con.back (W := 0) (rm_cec l Z a0 hw zC vF G ch h0 O0 Hc Jc) hZ0 (wd277 hw) (wd99 hw) (by decide) (by decide)) (by rw [hml]; rfl) (lenOf pd21 rfl) rfl (Nat.le_of_eq rfl) (hb Y e43_18) (q := 21) rfl (by decide) (by decide) ?_
 intro v24 T24 L24 X24 Q24
 obtain ⟨rfl, Nq24, e24⟩ := Q24
 have N24 := Fr.app N23 Nq24
 show Go _ _ _ _ (T24.setTop (mkF m 21 _ [(iv 1)]))
 refine ifN X24 hx (hb Y e43_21) (q := 24) rfl (by decide) ?_
 refine aL X24 hx (hb Y e43_24) (q := 25) rfl rfl rfl ?_
 refine g_getF X24 hx hZ0 hown0 (host := "") (Or.inl (wd235 hw)) Via.refl Qv e24 (hb Y e43_25) (q := 28) rfl ?_
 intro T25 X25 e25
 refine aL X25 hx (hb Y e43_28) (q := 29) rfl rfl rfl ?_
 refine g_dup X25 hx (hb Y e43_29) (q := 30) rfl rfl ?_
 refine g_getF X25 hx hZ0 hown0 (host := "") (Or.inl (wd263 hw)) Via.refl Qn e25 (hb Y e43_30) (q := 33) rfl ?_
 intro T26 X26 e26
 refine g_dupX1 X26 hx (hb Y e43_33) (q := 34) rfl rfl rfl ?_
 refine cI X26 hx (hb Y e43_34) (q := 35) rfl (z := 1) rfl ?_
 refine g_iadd X26 hx (hb Y e43_35) (q := 36) rfl (z := (Int32.ofNat (pc + 1))) (on_add (pc) 1) ?_
 refine g_putF X26 hx hZ0 hown0 (host := "") (Or.inl (wd263 hw)) Via.refl Qn Qe (Or.inl (wd264 hw)) (wd222 hw) (ty := .int) (by decide) rfl rfl e26 (hb Y e43_36) (q := 39) rfl ?_
 intro T27 h27 X27 e27 W27
 have N27 := Fr.snoc X27 N24 Qz
 have Fw27 : Fld Z h27 a1 sT1 "count" "I" (.int (Int32.ofNat (pc + 1))) := Qn.same W27
 refine iL X27 hx (hb Y e43_39) (q := 40) rfl rfl ?_
 refine g_i2b X27 hx (hb Y e43_40) (q := 41) rfl (z := (StrChars.lo8 ch)) rfl ?_
 have ne29 : vv ≠ a1 := (Ne.symm (Exa.neArv Qe Qa (wd222 hw)))
 have f30 := Qa.other W27 ne29
 refine g_stB X27 hx hZ0 f30 (i := pc) (on_clamp (show pc < 2147483648 from by omega)) (on_nn (show pc < 2147483648 from by omega)) (on_lt (show pc < pz from by omega) (show pz < 2147483648 from by omega)) (show pc < vd.length from by first | omega | (simp only [List.length_set]; omega)) (y := (StrChars.lo8 ch)) (lo8_nar _) e27 (hb Y e43_41) (q := 42) rfl ?_
 intro T28 h28 X28 e28 W28 V28
 have N28 := Fr.snoc X28 N27 Qy
 refine g_goto X28 hx (hb Y e43_42) (q := 75) (by decide) (by decide) ?_
 refine aL X28 hx (hb Y e43_75) (q := 76) rfl rfl rfl ?_
 have K31 : Keep h0 h27 [a1, vv] := (Keep.refl h0 [a1, vv]).wr W27 (Or.inl (by simp))
 have K32 : Keep h0 h28 [a1, vv] := K31.wr W28 (Or.inl (by simp))
 have f33 := Qe.wr W27
 have f34 := f33.wr W28
 have f35 := Qc.other W27 (Or.inr (slot_ne (Or.inl (wd238 hw)) (Or.inl (wd264 hw)) (by decide) (t := .byte) (t' := .int) (by decide) (by decide)))
 have ne36 : a1 ≠ vv := (Ne.symm ne29)
 have f37 := f35.other W28 (Or.inl ne36)
 have f38 := Fw27.other W28 (Or.inl ne36)
 have f39 := Qv.other W27 (Or.inr (slot_ne (Or.inl (wd236 hw)) (Or.inl (wd264 hw)) (by decide) (t := (.array .byte)) (t' := .int) (by decide) (by decide)))
 have f40 := f39.other W28 (Or.inl ne36)
 refine endP X28 hlk (fun h => by rw [hret] at h; cases h) (lastA X28 hx hret rfl rfl rfl (hb Y e43_76)) ?_ (by decide) (by decide)
 rw [e28]
 exact ⟨rfl, N28, K32, f34, f37, f38, f40, V28⟩
theorem e38_0 : Dc kC26 0 (.aload_n 0) 1 := by decide +kernel
theorem e38_1 : Dc kC26 1 (.iload_n 1) 1 := by decide +kernel
theorem e38_2 : Dc kC26 2 (.invokespecial 50) 3 := by decide +kernel
theorem wd262 (hw : HW a0 Z) : BW a0 Z (.code ⟨sT1, "append", "(C)Ljava/lang/AbstractStringBuilder;"⟩ kC37 (2 : Nat) (Option.some (Jvm.ClassFile.FieldType.object sT1))) := wat hw 262 rfl
theorem pd22 : parseMethodDescriptor "(C)Ljava/lang/AbstractStringBuilder;" = some ⟨[.char], some (.object "java/lang/AbstractStringBuilder")⟩ := by decide +kernel
theorem wd259 (hw : HW a0 Z) : BW a0 Z (.instanceMethod ⟨sT1, "append", "(C)Ljava/lang/AbstractStringBuilder;"⟩) := wat hw 259 rfl
theorem wd258 (hw : HW a0 Z) : BW a0 Z (.methodLink sT4 (50 : Nat) ⟨sT1, "append", "(C)Ljava/lang/AbstractStringBuilder;"⟩) := wat hw 258 rfl
theorem wd260 (hw : HW a0 Z) : BW a0 Z (.superclass sT4 sT1) := wat hw 260 rfl
theorem e38_5 : Dc kC26 5 .pop 1 := by decide +kernel
theorem e38_6 : Dc kC26 6 (.aload_n 0) 1 := by decide +kernel
theorem e38_7 : Dc kC26 7 .areturn 1 := by decide +kernel
def Q_sac (Z : State) (zC : Int32) (vF : Value) (a1 vv : Addr) (kv : ClassId) (vd : List Value) (pz pc : Nat) (ch : Int32) (h0 : Heap) (v : Option Value) (h : Heap) (L : List Loc) : Prop := v = some (.ref a1) ∧ Fr Z.heap.size L ∧ Keep h0 h [a1, vv] ∧ Exa Z h a1 "java/lang/StringBuilder" ∧ Fld Z h a1 sT1 "coder" "B" (iv 0) ∧ Fld Z h a1 sT1 "count" "I" (.int (Int32.ofNat (pc + 1))) ∧ Fld Z h a1 sT1 "value" "[B" (.ref vv) ∧ Arv Z h vv kv .byte (Int32.ofNat pz) (vd.set pc (.int (StrChars.lo8 ch))) (.int 0)
theorem rm_sac (l : Launch) (Z : State) (a0 : Array Value) (hw : HW a0 Z) (zC : Int32) (vF : Value) (G : GB l a0 Z zC vF) (a1 vv : Addr) (kv : ClassId) (vd : List Value) (pz pc : Nat) (ch : Int32) (h0 : Heap) (O0 : Old Z Z.heap.size h0) (Qe : Exa Z h0 a1 "java/lang/StringBuilder") (Qc : Fld Z h0 a1 sT1 "coder" "B" (iv 0)) (Qn : Fld Z h0 a1 sT1 "count" "I" (.int (Int32.ofNat pc))) (Qv : Fld Z h0 a1 sT1 "value" "[B" (.ref vv)) (Qa : Arv Z h0 vv kv .byte (Int32.ofNat pz) vd (.int 0)) (Ql : (vd.length = pz)) (Hp : (pc < pz)) (Hz : (pz ≤ 6)) (Qz : Z.heap.size ≤ a1) (Qy : Z.heap.size ≤ vv) (Hc : (¬ (ch < (0 : Int32)))) (Jc : (¬ ((255 : Int32) < ch))) :
    Con l Z (⟨"java/lang/StringBuilder", "append", "(C)Ljava/lang/StringBuilder;"⟩ : MethodName) kC26 2 (some (.object "java/lang/StringBuilder")) ({ frames := 2, cells := 0, slots := 0, locals := 27 } : Room) #[(.ref a1), (.int ch)] h0 (Q_sac Z zC vF a1 vv kv vd pz pc ch h0) := by
 refine Con.intro (plainFor_of_name pn8) ?_
 intro p e s m below meth c T0 X0 hx Y hml hown0 hnm hret hlk hZ0 e0
 have N0 := Fr.nil Z.heap.size
 refine castGo (g' := mkF m 0 #[vr a1, vi ch] []) (by first | rfl | (simp [entryFrame, mkF, argsToLocals, Value.category]; done)) ?_
 show Go _ _ _ _ (T0.setTop (mkF m 0 #[vr a1, vi ch] []))
 refine aL X0 hx (hb Y e38_0) (q := 1) rfl rfl rfl ?_
 refine iL X0 hx (hb Y e38_1) (q := 2) rfl rfl ?_
 refine g_su X0 hx hZ0 hown0 (wd258 hw) (same_self (wd259 hw) (wd268 hw) rfl (by decide)) (wd259 hw) (wd260 hw) (wd262 hw) (by decide) Qe e0 (Con.back (W := 0) (rm_aac l Z a0 hw zC vF G a1 vv kv vd pz pc ch h0 O0 Qe Qc Qn Qv Qa Ql Hp Hz Qz Qy Hc Jc) hZ0 (wd262 hw) (wd231 hw) (by decide) (by decide)) (by rw [hml]; rfl) (lenOf pd22 rfl) rfl (Nat.le_of_eq rfl) (hb Y e38_2) (q := 5) rfl (by decide) (by decide) ?_
 intro v21 T21 L21 X21 Q21
 obtain ⟨rfl, Nq21, K21q, q21_0, q21_1, q21_2, q21_3, q21_4⟩ := Q21
 have N21 := Fr.app N0 Nq21
 show Go _ _ _ _ (T21.setTop (mkF m 5 _ [(.ref a1)]))
 refine g_pop X21 hx (hb Y e38_5) (q := 6) rfl rfl ?_
 refine aL X21 hx (hb Y e38_6) (q := 7) rfl rfl rfl ?_
 have K22 : Keep h0 T21.heap [a1, vv] := (Keep.refl h0 [a1, vv]).trans K21q (allS (Or.inl (by simp)) (allS (Or.inl (by simp)) all0))
 refine endP X21 hlk (fun h => by rw [hret] at h; cases h) (lastA X21 hx hret rfl rfl rfl (hb Y e38_7)) ?_ (by decide) (by decide)
 exact ⟨rfl, N21, K22, q21_0, q21_1, q21_2, q21_3, q21_4⟩
theorem e45_0 : Dc kC18 0 (.aload_n 0) 1 := by decide +kernel
theorem e45_1 : Dc kC18 1 (.getfield 15) 3 := by decide +kernel
theorem e45_4 : Dc kC18 4 .areturn 1 := by decide +kernel
def Q_gval (Z : State) (zC : Int32) (vF : Value) (a1 vv : Addr) (h0 : Heap) (v : Option Value) (h : Heap) (L : List Loc) : Prop := v = some (.ref vv) ∧ Fr Z.heap.size L ∧ h = h0
theorem rm_gval (l : Launch) (Z : State) (a0 : Array Value) (hw : HW a0 Z) (zC : Int32) (vF : Value) (G : GB l a0 Z zC vF) (a1 vv : Addr) (h0 : Heap) (O0 : Old Z Z.heap.size h0) (P1 : Fld Z h0 a1 sT1 "value" "[B" (.ref vv)) :
    Con l Z (⟨sT1, "getValue", "()[B"⟩ : MethodName) kC18 1 (some (.array .byte)) ({ frames := 0, cells := 0, slots := 0, locals := 0 } : Room) #[(.ref a1)] h0 (Q_gval Z zC vF a1 vv h0) := by
 refine Con.intro (plainFor_of_name pn7) ?_
 intro p e s m below meth c T0 X0 hx Y hml hown0 hnm hret hlk hZ0 e0
 have N0 := Fr.nil Z.heap.size
 refine castGo (g' := mkF m 0 #[vr a1] []) (by first | rfl | (simp [entryFrame, mkF, argsToLocals, Value.category]; done)) ?_
 show Go _ _ _ _ (T0.setTop (mkF m 0 #[vr a1] []))
 refine aL X0 hx (hb Y e45_0) (q := 1) rfl rfl rfl ?_
 refine g_getF X0 hx hZ0 hown0 (host := "") (Or.inl (wd235 hw)) Via.refl P1 e0 (hb Y e45_1) (q := 4) rfl ?_
 intro T21 X21 e21
 refine endP X21 hlk (fun h => by rw [hret] at h; cases h) (lastA X21 hx hret rfl rfl rfl (hb Y e45_4)) ?_ (by decide) (by decide)
 rw [e21]
 exact ⟨rfl, N0, rfl⟩
theorem e44_0 : Dc kC45 0 (.aload_n 0) 1 := by decide +kernel
theorem e44_1 : Dc kC45 1 (.getfield 79) 3 := by decide +kernel
theorem e44_4 : Dc kC45 4 .ireturn 1 := by decide +kernel
def Q_asbl (Z : State) (zC : Int32) (vF : Value) (a1 : Addr) (c0 : Int32) (h0 : Heap) (v : Option Value) (h : Heap) (L : List Loc) : Prop := v = some (.int c0) ∧ Fr Z.heap.size L ∧ h = h0
theorem rm_asbl (l : Launch) (Z : State) (a0 : Array Value) (hw : HW a0 Z) (zC : Int32) (vF : Value) (G : GB l a0 Z zC vF) (a1 : Addr) (c0 : Int32) (h0 : Heap) (O0 : Old Z Z.heap.size h0) (P1 : Fld Z h0 a1 sT1 "count" "I" (.int c0)) :
    Con l Z (⟨sT1, "length", "()I"⟩ : MethodName) kC45 1 (some .int) ({ frames := 0, cells := 0, slots := 0, locals := 0 } : Room) #[(.ref a1)] h0 (Q_asbl Z zC vF a1 c0 h0) := by
 refine Con.intro (plainFor_of_name pn7) ?_
 intro p e s m below meth c T0 X0 hx Y hml hown0 hnm hret hlk hZ0 e0
 have N0 := Fr.nil Z.heap.size
 refine castGo (g' := mkF m 0 #[vr a1] []) (by first | rfl | (simp [entryFrame, mkF, argsToLocals, Value.category]; done)) ?_
 show Go _ _ _ _ (T0.setTop (mkF m 0 #[vr a1] []))
 refine aL X0 hx (hb Y e44_0) (q := 1) rfl rfl rfl ?_
 refine g_getF X0 hx hZ0 hown0 (host := "") (Or.inl (wd263 hw)) Via.refl P1 e0 (hb Y e44_1) (q := 4) rfl ?_
 intro T21 X21 e21
 refine endP X21 hlk (fun h => by rw [hret] at h; cases h) (lastI X21 hx hret (hb Y e44_4)) ?_ (by decide) (by decide)
 rw [e21]
 exact ⟨rfl, N0, rfl⟩
theorem e41_0 : Dc kC20 0 (.aload_n 0) 1 := by decide +kernel
theorem e41_1 : Dc kC20 1 (.invokespecial 343) 3 := by decide +kernel
theorem wd302 (hw : HW a0 Z) : BW a0 Z (.code ⟨sT1, "length", "()I"⟩ kC45 (1 : Nat) (Option.some Jvm.ClassFile.FieldType.int)) := wat hw 302 rfl
theorem wd297 (hw : HW a0 Z) : BW a0 Z (.instanceMethod ⟨sT1, "length", "()I"⟩) := wat hw 297 rfl
theorem wd301 (hw : HW a0 Z) : BW a0 Z (.methodLink sT4 (343 : Nat) ⟨sT1, "length", "()I"⟩) := wat hw 301 rfl
theorem e41_4 : Dc kC20 4 .ireturn 1 := by decide +kernel
def Q_sbl (Z : State) (zC : Int32) (vF : Value) (a1 : Addr) (c0 : Int32) (h0 : Heap) (v : Option Value) (h : Heap) (L : List Loc) : Prop := v = some (.int c0) ∧ Fr Z.heap.size L ∧ h = h0
theorem rm_sbl (l : Launch) (Z : State) (a0 : Array Value) (hw : HW a0 Z) (zC : Int32) (vF : Value) (G : GB l a0 Z zC vF) (a1 : Addr) (c0 : Int32) (h0 : Heap) (O0 : Old Z Z.heap.size h0) (P0 : Exa Z h0 a1 "java/lang/StringBuilder") (P1 : Fld Z h0 a1 sT1 "count" "I" (.int c0)) :
    Con l Z (⟨"java/lang/StringBuilder", "length", "()I"⟩ : MethodName) kC20 1 (some .int) ({ frames := 1, cells := 0, slots := 0, locals := 12 } : Room) #[(.ref a1)] h0 (Q_sbl Z zC vF a1 c0 h0) := by
 refine Con.intro (plainFor_of_name pn8) ?_
 intro p e s m below meth c T0 X0 hx Y hml hown0 hnm hret hlk hZ0 e0
 have N0 := Fr.nil Z.heap.size
 refine castGo (g' := mkF m 0 #[vr a1] []) (by first | rfl | (simp [entryFrame, mkF, argsToLocals, Value.category]; done)) ?_
 show Go _ _ _ _ (T0.setTop (mkF m 0 #[vr a1] []))
 refine aL X0 hx (hb Y e41_0) (q := 1) rfl rfl rfl ?_
 refine g_su X0 hx hZ0 hown0 (wd301 hw) (same_self (wd297 hw) (wd268 hw) rfl (by decide)) (wd297 hw) (wd260 hw) (wd302 hw) (by decide) P0 e0 (Con.back (W := 0) (rm_asbl l Z a0 hw zC vF G a1 c0 h0 O0 P1) hZ0 (wd302 hw) (wd231 hw) (by decide) (by decide)) (by rw [hml]; rfl) (lenOf pd5 rfl) rfl (Nat.le_of_eq rfl) (hb Y e41_1) (q := 4) rfl (by decide) (by decide) ?_
 intro v21 T21 L21 X21 Q21
 obtain ⟨rfl, Nq21, e21⟩ := Q21
 have N21 := Fr.app N0 Nq21
 show Go _ _ _ _ (T21.setTop (mkF m 4 _ [(.int c0)]))
 refine endP X21 hlk (fun h => by rw [hret] at h; cases h) (lastI X21 hx hret (hb Y e41_4)) ?_ (by decide) (by decide)
 rw [e21]
 exact ⟨rfl, N21, rfl⟩
theorem e6_0 : Dc kC8 0 (.aload_n 0) 1 := by decide +kernel
theorem e6_1 : Dc kC8 1 (.invokespecial 1) 3 := by decide +kernel
theorem e6_4 : Dc kC8 4 (.aload_n 1) 1 := by decide +kernel
theorem e6_5 : Dc kC8 5 (.invokevirtual 552) 3 := by decide +kernel
theorem wd294 (hw : HW a0 Z) : BW a0 Z (.code ⟨sT1, "getValue", "()[B"⟩ kC18 (1 : Nat) (Option.some (Jvm.ClassFile.FieldType.array Jvm.ClassFile.FieldType.byte))) := wat hw 294 rfl
theorem pd23 : parseMethodDescriptor "()[B" = some ⟨[], some (.array .byte)⟩ := by decide +kernel
theorem wd293 (hw : HW a0 Z) : BW a0 Z (.selects sT4 ⟨sT1, "getValue", "()[B"⟩ ⟨sT1, "getValue", "()[B"⟩) := wat hw 293 rfl
theorem wd290 (hw : HW a0 Z) : BW a0 Z (.methodLink sT0 (552 : Nat) ⟨sT1, "getValue", "()[B"⟩) := wat hw 290 rfl
theorem wd291 (hw : HW a0 Z) : BW a0 Z (.declares ⟨sT1, "getValue", "()[B"⟩) := wat hw 291 rfl
theorem wd292 (hw : HW a0 Z) : BW a0 Z (.instanceMethod ⟨sT1, "getValue", "()[B"⟩) := wat hw 292 rfl
theorem e6_8 : Dc kC8 8 (.astore_n 3) 1 := by decide +kernel
theorem e6_9 : Dc kC8 9 (.aload_n 1) 1 := by decide +kernel
theorem e6_10 : Dc kC8 10 (.invokevirtual 549) 3 := by decide +kernel
theorem wd300 (hw : HW a0 Z) : BW a0 Z (.code ⟨sT4, "length", "()I"⟩ kC20 (1 : Nat) (Option.some Jvm.ClassFile.FieldType.int)) := wat hw 300 rfl
theorem wd223 (hw : HW a0 Z) : BW a0 Z (.initialized sT4) := wat hw 223 rfl
theorem wd298 (hw : HW a0 Z) : BW a0 Z (.selects sT4 ⟨sT1, "length", "()I"⟩ ⟨sT4, "length", "()I"⟩) := wat hw 298 rfl
theorem wd295 (hw : HW a0 Z) : BW a0 Z (.methodLink sT0 (549 : Nat) ⟨sT1, "length", "()I"⟩) := wat hw 295 rfl
theorem wd296 (hw : HW a0 Z) : BW a0 Z (.declares ⟨sT1, "length", "()I"⟩) := wat hw 296 rfl
theorem wd299 (hw : HW a0 Z) : BW a0 Z (.instanceMethod ⟨sT4, "length", "()I"⟩) := wat hw 299 rfl
theorem e6_13 : Dc kC8 13 (.istore 4) 2 := by decide +kernel
theorem e6_15 : Dc kC8 15 (.aload_n 1) 1 := by decide +kernel
theorem e6_16 : Dc kC8 16 (.invokevirtual 1047) 3 := by decide +kernel
theorem wd303 (hw : HW a0 Z) : BW a0 Z (.methodLink sT0 (1047 : Nat) ⟨sT1, "isLatin1", "()Z"⟩) := wat hw 303 rfl
theorem e6_19 : Dc kC8 19 (.ifCond .eq 22) 3 := by decide +kernel
theorem e6_22 : Dc kC8 22 (.aload_n 0) 1 := by decide +kernel
theorem e6_23 : Dc kC8 23 (.iconst 0) 1 := by decide +kernel
theorem e6_24 : Dc kC8 24 (.putfield 15) 3 := by decide +kernel
theorem e6_27 : Dc kC8 27 (.aload_n 0) 1 := by decide +kernel
theorem e6_28 : Dc kC8 28 (.aload_n 3) 1 := by decide +kernel
theorem e6_29 : Dc kC8 29 (.iconst 0) 1 := by decide +kernel
theorem e6_30 : Dc kC8 30 (.iload 4) 2 := by decide +kernel
theorem e6_32 : Dc kC8 32 (.invokestatic 54) 3 := by decide +kernel
theorem wd304 (hw : HW a0 Z) : BW a0 Z (.methodLink sT0 (54 : Nat) ⟨"java/util/Arrays", "copyOfRange", "([BII)[B"⟩) := wat hw 304 rfl
theorem e6_35 : Dc kC8 35 (.putfield 9) 3 := by decide +kernel
theorem e6_38 : Dc kC8 38 (.goto 59) 3 := by decide +kernel
theorem e6_97 : Dc kC8 97 .return_ 1 := by decide +kernel
def Q_sia (Z : State) (zC : Int32) (vF : Value) (a1 a2 vv : Addr) (kv : ClassId) (vd : List Value) (pz pc : Nat) (h0 : Heap) (v : Option Value) (h : Heap) (L : List Loc) : Prop := ∃ (c : Addr), ∃ (kc : ClassId), v = none ∧ Fr Z.heap.size L ∧ Keep h0 h [a1] ∧ Exa Z h a1 sT0 ∧ Fld Z h a1 sT0 "coder" "B" (iv 0) ∧ Fld Z h a1 sT0 "value" "[B" (.ref c) ∧ h0.size ≤ c ∧ Arv Z h c kc .byte (Int32.ofNat pc) (sub vd 0 pc (.int 0)) (.int 0)
theorem rm_sia (l : Launch) (Z : State) (a0 : Array Value) (hw : HW a0 Z) (zC : Int32) (vF : Value) (G : GB l a0 Z zC vF) (a1 a2 vv : Addr) (kv : ClassId) (vd : List Value) (pz pc : Nat) (h0 : Heap) (O0 : Old Z Z.heap.size h0) (Pe : Exa Z h0 a1 sT0) (Pc : Fld Z h0 a1 sT0 "coder" "B" (iv 0)) (Pv : Fld Z h0 a1 sT0 "value" "[B" .null) (Pz : Z.heap.size ≤ a1) (Qe : Exa Z h0 a2 "java/lang/StringBuilder") (Qc : Fld Z h0 a2 sT1 "coder" "B" (iv 0)) (Qn : Fld Z h0 a2 sT1 "count" "I" (.int (Int32.ofNat pc))) (Qv : Fld Z h0 a2 sT1 "value" "[B" (.ref vv)) (Qa : Arv Z h0 vv kv .byte (Int32.ofNat pz) vd (.int 0)) (Ql : (vd.length = pz)) (Hp : (pc < pz)) (H0 : (0 < pc)) (Hz : (pz ≤ 6)) :
    Con l Z (⟨sT0, "<init>", "(Ljava/lang/AbstractStringBuilder;Ljava/lang/Void;)V"⟩ : MethodName) kC8 5 none ({ frames := 3, cells := 1, slots := 6, locals := 62 } : Room) #[(.ref a1), (.ref a2), .null] h0 (Q_sia Z zC vF a1 a2 vv kv vd pz pc h0) := by
 refine Con.intro (plainFor_of_name pn0) ?_
 intro p e s m below meth c T0 X0 hx Y hml hown0 hnm hret hlk hZ0 e0
 have N0 := Fr.nil Z.heap.size
 refine castGo (g' := mkF m 0 #[vr a1, vr a2, .val .null, uS, uS] []) (by first | rfl | (simp [entryFrame, mkF, argsToLocals, Value.category]; done)) ?_
 show Go _ _ _ _ (T0.setTop (mkF m 0 #[vr a1, vr a2, .val .null, uS, uS] []))
 refine aL X0 hx (hb Y e6_0) (q := 1) rfl rfl rfl ?_
 refine g_init0 X0 hx hZ0 hown0 (wd146 hw) (wd37 hw) (wd38 hw) (by rw [hml]; rfl) (by decide) (W := 0) (Nat.le_of_eq rfl) (by decide) e0 (hb Y e6_1) (q := 4) rfl ?_
 intro T21 X21 e21
 refine aL X21 hx (hb Y e6_4) (q := 5) rfl rfl rfl ?_
 refine g_vi X21 hx hZ0 hown0 (wd290 hw) (wd291 hw) (notFace_of_selects (args := #[]) (mvT hZ0 (wd293 hw))) (wd293 hw) (wd292 hw) (by decide) Qe e21 (Con.back (W := 0) (rm_gval l Z a0 hw zC vF G a2 vv h0 O0 Qv) hZ0 (wd294 hw) (wd231 hw) (by decide) (by decide)) (by rw [hml]; rfl) (lenOf pd23 rfl) rfl (Nat.le_of_eq rfl) (hb Y e6_5) (q := 8) rfl (by decide) (by decide) ?_
 intro v22 T22 L22 X22 Q22
 obtain ⟨rfl, Nq22, e22⟩ := Q22
 have N22 := Fr.app N0 Nq22
 show Go _ _ _ _ (T22.setTop (mkF m 8 _ [(.ref vv)]))
 refine sA X22 hx (hb Y e6_8) (q := 9) rfl rfl (Ls' := #[vr a1, vr a2, .val .null, vr vv, uS]) rfl ?_
 refine aL X22 hx (hb Y e6_9) (q := 10) rfl rfl rfl ?_
 refine g_vi X22 hx hZ0 hown0 (wd295 hw) (wd296 hw) (nf_of (as := #[]) (mvT hZ0 (wd268 hw)) rfl) (wd298 hw) (wd299 hw) (by decide) Qe e22 (Con.back (W := 0) (rm_sbl l Z a0 hw zC vF G a2 (Int32.ofNat pc) h0 O0 Qe Qn) hZ0 (wd300 hw) (wd223 hw) (by decide) (by decide)) (by rw [hml]; rfl) (lenOf pd5 rfl) rfl (Nat.le_of_eq rfl) (hb Y e6_10) (q := 13) rfl (by decide) (by decide) ?_
 intro v23 T23 L23 X23 Q23
 obtain ⟨rfl, Nq23, e23⟩ := Q23
 have N23 := Fr.app N22 Nq23
 show Go _ _ _ _ (T23.setTop (mkF m 13 _ [(.int (Int32.ofNat pc))]))
 refine sIw X23 hx (hb Y e6_13) (q := 15) rfl (Ls' := #[vr a1, vr a2, .val .null, vr vv, vi (Int32.ofNat pc)]) rfl ?_
 refine aL X23 hx (hb Y e6_15) (q := 16) rfl rfl rfl ?_
 refine g_vi X23 hx hZ0 hown0 (wd303 hw) (wd271 hw) (notFace_of_selects (args := #[]) (mvT hZ0 (wd273 hw))) (wd273 hw) (wd272 hw) (by decide) Qe e23 (Con.back (W := 0) (rm_isa l Z a0 hw zC vF G a2 h0 O0 Qc) hZ0 (wd274 hw) (wd231 hw) (by decide) (by decide)) (by rw [hml]; rfl) (lenOf pd4 rfl) rfl (Nat.le_of_eq rfl) (hb Y e6_16) (q := 19) rfl (by decide) (by decide) ?_
 intro v24 T24 L24 X24 Q24
 obtain ⟨rfl, Nq24, e24⟩ := Q24
 have N24 := Fr.app N23 Nq24
 show Go _ _ _ _ (T24.setTop (mkF m 19 _ [(iv 1)]))
 refine ifN X24 hx (hb Y e6_19) (q := 22) rfl (by decide) ?_
 refine aL X24 hx (hb Y e6_22) (q := 23) rfl rfl rfl ?_
 refine cI X24 hx (hb Y e6_23) (q := 24) rfl (z := 0) rfl ?_
 refine g_putF X24 hx hZ0 hown0 (host := "") (Or.inl (wd60 hw)) Via.refl Pc Pe (Or.inr ⟨(wd13 hw), rfl, hnm⟩) (wd10 hw) (ty := .byte) (by decide) rfl rfl e24 (hb Y e6_24) (q := 27) rfl ?_
 intro T25 h25 X25 e25 W25
 have N25 := Fr.snoc X25 N24 Pz
 have Fw25 : Fld Z h25 a1 sT0 "coder" "B" (iv 0) := Pc.same W25
 refine aL X25 hx (hb Y e6_27) (q := 28) rfl rfl rfl ?_
 refine aL X25 hx (hb Y e6_28) (q := 29) rfl rfl rfl ?_
 refine cI X25 hx (hb Y e6_29) (q := 30) rfl (z := 0) rfl ?_
 refine iLw X25 hx (hb Y e6_30) (q := 32) rfl rfl ?_
 have ne29 : vv ≠ a1 := (Ne.symm (Exa.neArv Pe Qa (wd10 hw)))
 have f30 := Qa.other W25 ne29
 have f31 := O0.wr W25 Pz
 refine g_st X25 hx hZ0 hown0 (wd304 hw) (wd180 hw) (wd181 hw) (wd182 hw) (by decide) e25 (Con.back (W := 1) (rm_Range l Z a0 hw zC vF G vv kv vd pz 0 pc h25 f31 f30 Ql Hz H0 (show pc ≤ pz from by omega) (show ¬ (0 = 0 ∧ pc = pz) from by omega)) hZ0 (wd182 hw) (wd181 hw) (by decide) (by decide)) (by rw [hml]; rfl) (lenOf pd7 rfl) rfl (Nat.le_of_eq rfl) (hb Y e6_32) (q := 35) rfl (by decide) (by decide) ?_
 intro v28 T28 L28 X28 Q28
 obtain ⟨ct_28, kc_28, rfl, Nq28, K28q, q28_0, q28_1, q28_2⟩ := Q28
 have N28 := Fr.app N25 Nq28
 show Go _ _ _ _ (T28.setTop (mkF m 35 _ [(.ref ct_28), (.ref a1)]))
 have f32 := Pv.other W25 (Or.inr (slot_ne (Or.inr (wd12 hw)) (Or.inr (wd13 hw)) (by decide) (t := (.array .byte)) (t' := .byte) (by decide) (by decide)))
 have f33 := f32.keep K28q nin0
 have f34 := Pe.wr W25
 have f35 := f34.keep K28q
 refine g_putF X28 hx hZ0 hown0 (host := "") (Or.inl (wd53 hw)) Via.refl f33 f35 (Or.inr ⟨(wd12 hw), rfl, hnm⟩) (wd10 hw) (ty := (.array .byte)) (by decide) rfl rfl rfl (hb Y e6_35) (q := 38) rfl ?_
 intro T36 h36 X36 e36 W36
 have N36 := Fr.snoc X36 N28 Pz
 have Fw36 : Fld Z h36 a1 sT0 "value" "[B" (.ref ct_28) := f33.same W36
 refine g_goto X36 hx (hb Y e6_38) (q := 97) (by decide) (by decide) ?_
 have K37 : Keep h0 h25 [a1] := (Keep.refl h0 [a1]).wr W25 (Or.inl (by simp))
 have K38 : Keep h0 T28.heap [a1] := K37.trans K28q all0
 have K39 : Keep h0 h36 [a1] := K38.wr W36 (Or.inl (by simp))
 have f40 := f35.wr W36
 have f41 := Fw25.keep K28q nin0
 have f42 := f41.other W36 (Or.inr (slot_ne (Or.inr (wd13 hw)) (Or.inr (wd12 hw)) (by decide) (t := .byte) (t' := (.array .byte)) (by decide) (by decide)))
 have le44 := (Nat.le_of_eq (Wr.size W25).symm)
 have gh43 : h0.size ≤ ct_28 := Nat.le_trans le44 q28_0
 have ne45 : ct_28 ≠ a1 := (Nat.ne_of_gt (Nat.lt_of_lt_of_le (Nat.lt_of_lt_of_le Pe.lt le44) q28_0))
 have f46 := q28_1.other W36 ne45
 refine endP X36 hlk (fun _ => rfl) (lastV X36 hx hret (hb Y e6_97)) ?_ (by decide) (by decide)
 rw [e36]
 exact ⟨ct_28, kc_28, rfl, N36, K39, f40, f42, Fw36, gh43, (by have q := f46; rw [Nat.sub_zero, ins_all sub_len] at q; exact q)⟩
theorem e12_0 : Dc kC14 0 (.aload_n 0) 1 := by decide +kernel
theorem e12_1 : Dc kC14 1 (.aload_n 1) 1 := by decide +kernel
theorem e12_2 : Dc kC14 2 .aconst_null 1 := by decide +kernel
theorem e12_3 : Dc kC14 3 (.invokespecial 489) 3 := by decide +kernel
theorem wd289 (hw : HW a0 Z) : BW a0 Z (.code ⟨sT0, "<init>", "(Ljava/lang/AbstractStringBuilder;Ljava/lang/Void;)V"⟩ kC8 (5 : Nat) (Option.none : Option Jvm.ClassFile.FieldType)) := wat hw 289 rfl
theorem pd24 : parseMethodDescriptor "(Ljava/lang/AbstractStringBuilder;Ljava/lang/Void;)V" = some ⟨[(.object "java/lang/AbstractStringBuilder"), (.object "java/lang/Void")], none⟩ := by decide +kernel
theorem wd287 (hw : HW a0 Z) : BW a0 Z (.methodLink sT0 (489 : Nat) ⟨sT0, "<init>", "(Ljava/lang/AbstractStringBuilder;Ljava/lang/Void;)V"⟩) := wat hw 287 rfl
theorem wd288 (hw : HW a0 Z) : BW a0 Z (.instanceMethod ⟨sT0, "<init>", "(Ljava/lang/AbstractStringBuilder;Ljava/lang/Void;)V"⟩) := wat hw 288 rfl
theorem e12_6 : Dc kC14 6 .return_ 1 := by decide +kernel
def Q_sis (Z : State) (zC : Int32) (vF : Value) (a1 a2 vv : Addr) (kv : ClassId) (vd : List Value) (pz pc : Nat) (h0 : Heap) (v : Option Value) (h : Heap) (L : List Loc) : Prop := ∃ (c : Addr), ∃ (kc : ClassId), v = none ∧ Fr Z.heap.size L ∧ Keep h0 h [a1] ∧ Exa Z h a1 sT0 ∧ Fld Z h a1 sT0 "coder" "B" (iv 0) ∧ Fld Z h a1 sT0 "value" "[B" (.ref c) ∧ h0.size ≤ c ∧ Arv Z h c kc .byte (Int32.ofNat pc) (sub vd 0 pc (.int 0)) (.int 0)
theorem rm_sis (l : Launch) (Z : State) (a0 : Array Value) (hw : HW a0 Z) (zC : Int32) (vF : Value) (G : GB l a0 Z zC vF) (a1 a2 vv : Addr) (kv : ClassId) (vd : List Value) (pz pc : Nat) (h0 : Heap) (O0 : Old Z Z.heap.size h0) (Pe : Exa Z h0 a1 sT0) (Pc : Fld Z h0 a1 sT0 "coder" "B" (iv 0)) (Pv : Fld Z h0 a1 sT0 "value" "[B" .null) (Pz : Z.heap.size ≤ a1) (Qe : Exa Z h0 a2 "java/lang/StringBuilder") (Qc : Fld Z h0 a2 sT1 "coder" "B" (iv 0)) (Qn : Fld Z h0 a2 sT1 "count" "I" (.int (Int32.ofNat pc))) (Qv : Fld Z h0 a2 sT1 "value" "[B" (.ref vv)) (Qa : Arv Z h0 vv kv .byte (Int32.ofNat pz) vd (.int 0)) (Ql : (vd.length = pz)) (Hp : (pc < pz)) (H0 : (0 < pc)) (Hz : (pz ≤ 6)) :
    Con l Z (⟨sT0, "<init>", "(Ljava/lang/StringBuilder;)V"⟩ : MethodName) kC14 2 none ({ frames := 4, cells := 1, slots := 6, locals := 78 } : Room) #[(.ref a1), (.ref a2)] h0 (Q_sis Z zC vF a1 a2 vv kv vd pz pc h0) := by
 refine Con.intro (plainFor_of_name pn0) ?_
 intro p e s m below meth c T0 X0 hx Y hml hown0 hnm hret hlk hZ0 e0
 have N0 := Fr.nil Z.heap.size
 refine castGo (g' := mkF m 0 #[vr a1, vr a2] []) (by first | rfl | (simp [entryFrame, mkF, argsToLocals, Value.category]; done)) ?_
 show Go _ _ _ _ (T0.setTop (mkF m 0 #[vr a1, vr a2] []))
 refine aL X0 hx (hb Y e12_0) (q := 1) rfl rfl rfl ?_
 refine aL X0 hx (hb Y e12_1) (q := 2) rfl rfl rfl ?_
 refine cN X0 hx (hb Y e12_2) (q := 3) rfl ?_
 refine g_sp X0 hx hZ0 hown0 (wd287 hw) (wd288 hw) (wd289 hw) rfl (by decide) e0 (Con.back (W := 0) (rm_sia l Z a0 hw zC vF G a1 a2 vv kv vd pz pc h0 O0 Pe Pc Pv Pz Qe Qc Qn Qv Qa Ql Hp H0 Hz) hZ0 (wd289 hw) (wd9 hw) (by decide) (by decide)) (by rw [hml]; rfl) (lenOf pd24 rfl) rfl (Nat.le_of_eq rfl) (hb Y e12_3) (q := 6) rfl (by decide) (by decide) ?_
 intro v21 T21 L21 X21 Q21
 obtain ⟨c_21, kc_21, rfl, Nq21, K21q, q21_0, q21_1, q21_2, q21_3, q21_4⟩ := Q21
 have N21 := Fr.app N0 Nq21
 show Go _ _ _ _ (T21.setTop (mkF m 6 _ []))
 have K22 : Keep h0 T21.heap [a1] := (Keep.refl h0 [a1]).trans K21q (allS (Or.inl (by simp)) all0)
 have gh23 : h0.size ≤ c_21 := Nat.le_trans (Nat.le_refl _) q21_3
 refine endP X21 hlk (fun _ => rfl) (lastV X21 hx hret (hb Y e12_6)) ?_ (by decide) (by decide)
 exact ⟨c_21, kc_21, rfl, N21, K22, q21_0, q21_1, q21_2, gh23, q21_4⟩
theorem e40_0 : Dc kC28 0 (.new 18) 3 := by decide +kernel
theorem wd283 (hw : HW a0 Z) : BW a0 Z (.classLink sT4 (18 : Nat) sT0) := wat hw 283 rfl
theorem e40_3 : Dc kC28 3 .dup 1 := by decide +kernel
theorem e40_4 : Dc kC28 4 (.aload_n 0) 1 := by decide +kernel
theorem e40_5 : Dc kC28 5 (.invokespecial 137) 3 := by decide +kernel
theorem wd286 (hw : HW a0 Z) : BW a0 Z (.code ⟨sT0, "<init>", "(Ljava/lang/StringBuilder;)V"⟩ kC14 (2 : Nat) (Option.none : Option Jvm.ClassFile.FieldType)) := wat hw 286 rfl
theorem pd25 : parseMethodDescriptor "(Ljava/lang/StringBuilder;)V" = some ⟨[(.object "java/lang/StringBuilder")], none⟩ := by decide +kernel
theorem wd284 (hw : HW a0 Z) : BW a0 Z (.methodLink sT4 (137 : Nat) ⟨sT0, "<init>", "(Ljava/lang/StringBuilder;)V"⟩) := wat hw 284 rfl
theorem wd285 (hw : HW a0 Z) : BW a0 Z (.instanceMethod ⟨sT0, "<init>", "(Ljava/lang/StringBuilder;)V"⟩) := wat hw 285 rfl
theorem e40_8 : Dc kC28 8 .areturn 1 := by decide +kernel
def Q_tos (Z : State) (zC : Int32) (vF : Value) (a2 vv : Addr) (kv : ClassId) (vd : List Value) (pz pc : Nat) (h0 : Heap) (v : Option Value) (h : Heap) (L : List Loc) : Prop := ∃ (r : Addr), ∃ (c : Addr), ∃ (kc : ClassId), v = some (.ref r) ∧ Fr Z.heap.size L ∧ Keep h0 h [] ∧ h0.size ≤ r ∧ Exa Z h r sT0 ∧ Fld Z h r sT0 "coder" "B" (iv 0) ∧ Fld Z h r sT0 "value" "[B" (.ref c) ∧ h0.size ≤ c ∧ Arv Z h c kc .byte (Int32.ofNat pc) (sub vd 0 pc (.int 0)) (.int 0)
theorem rm_tos (l : Launch) (Z : State) (a0 : Array Value) (hw : HW a0 Z) (zC : Int32) (vF : Value) (G : GB l a0 Z zC vF) (a2 vv : Addr) (kv : ClassId) (vd : List Value) (pz pc : Nat) (h0 : Heap) (O0 : Old Z Z.heap.size h0) (Qe : Exa Z h0 a2 "java/lang/StringBuilder") (Qc : Fld Z h0 a2 sT1 "coder" "B" (iv 0)) (Qn : Fld Z h0 a2 sT1 "count" "I" (.int (Int32.ofNat pc))) (Qv : Fld Z h0 a2 sT1 "value" "[B" (.ref vv)) (Qa : Arv Z h0 vv kv .byte (Int32.ofNat pz) vd (.int 0)) (Ql : (vd.length = pz)) (Hp : (pc < pz)) (H0 : (0 < pc)) (Hz : (pz ≤ 6)) :
    Con l Z (⟨"java/lang/StringBuilder", "toString", "()Ljava/lang/String;"⟩ : MethodName) kC28 1 (some (.object sT0)) ({ frames := 5, cells := 2, slots := 10, locals := 92 } : Room) #[(.ref a2)] h0 (Q_tos Z zC vF a2 vv kv vd pz pc h0) := by
 refine Con.intro (plainFor_of_name pn8) ?_
 intro p e s m below meth c T0 X0 hx Y hml hown0 hnm hret hlk hZ0 e0
 have N0 := Fr.nil Z.heap.size
 refine castGo (g' := mkF m 0 #[vr a2] []) (by first | rfl | (simp [entryFrame, mkF, argsToLocals, Value.category]; done)) ?_
 show Go _ _ _ _ (T0.setTop (mkF m 0 #[vr a2] []))
 refine g_new X0 hx hZ0 hown0 (wd283 hw) (wd10 hw) (wd9 hw) (by decide) (by decide) e0 (hb Y e40_0) (q := 3) rfl ?_
 intro T21 h21 b21 g21 X21 e21 E21 A21 D21
 have F21_12 := D21 (Or.inr (wd12 hw)) (ty := (.array .byte)) (by decide)
 have F21_13 := D21 (Or.inr (wd13 hw)) (ty := .byte) (by decide)
 refine g_dup X21 hx (hb Y e40_3) (q := 4) rfl rfl ?_
 refine aL X21 hx (hb Y e40_4) (q := 5) rfl rfl rfl ?_
 have gz29 : Z.heap.size ≤ b21 := Nat.le_trans O0.2.1 (Nat.le_of_eq g21.symm)
 have f30 := Qe.ext E21
 have f31 := Qc.ext E21
 have f32 := Qn.ext E21
 have f33 := Qv.ext E21
 have f34 := Qa.ext E21
 have f35 := O0.ext E21
 refine g_sp X21 hx hZ0 hown0 (wd284 hw) (wd285 hw) (wd286 hw) rfl (by decide) e21 (Con.back (W := 1) (rm_sis l Z a0 hw zC vF G b21 a2 vv kv vd pz pc h21 f35 A21 F21_13 F21_12 gz29 f30 f31 f32 f33 f34 Ql Hp H0 Hz) hZ0 (wd286 hw) (wd9 hw) (by decide) (by decide)) (by rw [hml]; rfl) (lenOf pd25 rfl) rfl (Nat.le_of_eq rfl) (hb Y e40_5) (q := 8) rfl (by decide) (by decide) ?_
 intro v28 T28 L28 X28 Q28
 obtain ⟨c_28, kc_28, rfl, Nq28, K28q, q28_0, q28_1, q28_2, q28_3, q28_4⟩ := Q28
 have N28 := Fr.app N0 Nq28
 show Go _ _ _ _ (T28.setTop (mkF m 8 _ [(.ref b21)]))
 have K36 : Keep h0 h21 [] := (Keep.refl h0 []).ext E21
 have gh37 : h0.size ≤ b21 := Nat.le_trans (Nat.le_refl _) (Nat.le_of_eq g21.symm)
 have K38 : Keep h0 T28.heap [] := K36.trans K28q (allS (Or.inr gh37) all0)
 have le40 := E21.1
 have gh39 : h0.size ≤ c_28 := Nat.le_trans le40 q28_3
 refine endP X28 hlk (fun h => by rw [hret] at h; cases h) (lastA X28 hx hret rfl rfl rfl (hb Y e40_8)) ?_ (by decide) (by decide)
 exact ⟨b21, c_28, kc_28, rfl, N28, K38, gh37, q28_0, q28_1, q28_2, gh39, q28_4⟩
theorem e57_0 : Dc kC25 0 (.aload_n 0) 1 := by decide +kernel
theorem e57_1 : Dc kC25 1 (.bipush 63) 2 := by decide +kernel
theorem e57_3 : Dc kC25 3 (.invokevirtual 70) 3 := by decide +kernel
theorem wd86 (hw : HW a0 Z) : BW a0 Z (.code ⟨sT0, "indexOf", "(I)I"⟩ kC35 (2 : Nat) (Option.some Jvm.ClassFile.FieldType.int)) := wat hw 86 rfl
theorem pd26 : parseMethodDescriptor "(I)I" = some ⟨[.int], some .int⟩ := by decide +kernel
theorem wd85 (hw : HW a0 Z) : BW a0 Z (.selects sT0 ⟨sT0, "indexOf", "(I)I"⟩ ⟨sT0, "indexOf", "(I)I"⟩) := wat hw 85 rfl
theorem wd82 (hw : HW a0 Z) : BW a0 Z (.methodLink sT2 (70 : Nat) ⟨sT0, "indexOf", "(I)I"⟩) := wat hw 82 rfl
theorem wd83 (hw : HW a0 Z) : BW a0 Z (.declares ⟨sT0, "indexOf", "(I)I"⟩) := wat hw 83 rfl
theorem wd84 (hw : HW a0 Z) : BW a0 Z (.instanceMethod ⟨sT0, "indexOf", "(I)I"⟩) := wat hw 84 rfl
theorem e57_6 : Dc kC25 6 (.istore_n 1) 1 := by decide +kernel
theorem e57_7 : Dc kC25 7 (.iload_n 1) 1 := by decide +kernel
theorem e57_8 : Dc kC25 8 (.ifCond .ge 7) 3 := by decide +kernel
theorem e57_15 : Dc kC25 15 (.aload_n 0) 1 := by decide +kernel
theorem e57_16 : Dc kC25 16 (.iconst 0) 1 := by decide +kernel
theorem e57_17 : Dc kC25 17 (.iload_n 1) 1 := by decide +kernel
theorem e57_18 : Dc kC25 18 (.invokevirtual 61) 3 := by decide +kernel
theorem wd166 (hw : HW a0 Z) : BW a0 Z (.code ⟨sT0, "substring", "(II)Ljava/lang/String;"⟩ kC15 (5 : Nat) (Option.some (Jvm.ClassFile.FieldType.object sT0))) := wat hw 166 rfl
theorem pd27 : parseMethodDescriptor "(II)Ljava/lang/String;" = some ⟨[.int, .int], some (.object "java/lang/String")⟩ := by decide +kernel
theorem wd165 (hw : HW a0 Z) : BW a0 Z (.selects sT0 ⟨sT0, "substring", "(II)Ljava/lang/String;"⟩ ⟨sT0, "substring", "(II)Ljava/lang/String;"⟩) := wat hw 165 rfl
theorem wd162 (hw : HW a0 Z) : BW a0 Z (.methodLink sT2 (61 : Nat) ⟨sT0, "substring", "(II)Ljava/lang/String;"⟩) := wat hw 162 rfl
theorem wd163 (hw : HW a0 Z) : BW a0 Z (.declares ⟨sT0, "substring", "(II)Ljava/lang/String;"⟩) := wat hw 163 rfl
theorem wd164 (hw : HW a0 Z) : BW a0 Z (.instanceMethod ⟨sT0, "substring", "(II)Ljava/lang/String;"⟩) := wat hw 164 rfl
theorem e57_21 : Dc kC25 21 (.astore_n 2) 1 := by decide +kernel
theorem e57_22 : Dc kC25 22 (.aload_n 2) 1 := by decide +kernel
theorem e57_23 : Dc kC25 23 (.astore_n 3) 1 := by decide +kernel
theorem e57_24 : Dc kC25 24 (.aload_n 2) 1 := by decide +kernel
theorem e57_25 : Dc kC25 25 (.ldc 74) 2 := by decide +kernel
theorem e57_27 : Dc kC25 27 (.invokevirtual 76) 3 := by decide +kernel
theorem wd116 (hw : HW a0 Z) : BW a0 Z (.code ⟨sT0, "contains", "(Ljava/lang/CharSequence;)Z"⟩ kC42 (2 : Nat) (Option.some Jvm.ClassFile.FieldType.boolean)) := wat hw 116 rfl
theorem pd28 : parseMethodDescriptor "(Ljava/lang/CharSequence;)Z" = some ⟨[(.object "java/lang/CharSequence")], some .boolean⟩ := by decide +kernel
theorem wd115 (hw : HW a0 Z) : BW a0 Z (.selects sT0 ⟨sT0, "contains", "(Ljava/lang/CharSequence;)Z"⟩ ⟨sT0, "contains", "(Ljava/lang/CharSequence;)Z"⟩) := wat hw 115 rfl
theorem wd112 (hw : HW a0 Z) : BW a0 Z (.methodLink sT2 (76 : Nat) ⟨sT0, "contains", "(Ljava/lang/CharSequence;)Z"⟩) := wat hw 112 rfl
theorem wd113 (hw : HW a0 Z) : BW a0 Z (.declares ⟨sT0, "contains", "(Ljava/lang/CharSequence;)Z"⟩) := wat hw 113 rfl
theorem wd114 (hw : HW a0 Z) : BW a0 Z (.instanceMethod ⟨sT0, "contains", "(Ljava/lang/CharSequence;)Z"⟩) := wat hw 114 rfl
theorem e57_30 : Dc kC25 30 (.ifCond .eq 81) 3 := by decide +kernel
theorem e57_33 : Dc kC25 33 (.new 80) 3 := by decide +kernel
theorem wd221 (hw : HW a0 Z) : BW a0 Z (.classLink sT2 (80 : Nat) sT4) := wat hw 221 rfl
theorem e57_36 : Dc kC25 36 .dup 1 := by decide +kernel
theorem e57_37 : Dc kC25 37 (.aload_n 2) 1 := by decide +kernel
theorem e57_38 : Dc kC25 38 (.invokevirtual 53) 3 := by decide +kernel
theorem wd161 (hw : HW a0 Z) : BW a0 Z (.methodLink sT2 (53 : Nat) ⟨sT0, "length", "()I"⟩) := wat hw 161 rfl
theorem e57_41 : Dc kC25 41 (.invokespecial 82) 3 := by decide +kernel
theorem wd226 (hw : HW a0 Z) : BW a0 Z (.code ⟨sT4, "<init>", "(I)V"⟩ kC50 (2 : Nat) (Option.none : Option Jvm.ClassFile.FieldType)) := wat hw 226 rfl
theorem wd224 (hw : HW a0 Z) : BW a0 Z (.methodLink sT2 (82 : Nat) ⟨sT4, "<init>", "(I)V"⟩) := wat hw 224 rfl
theorem wd225 (hw : HW a0 Z) : BW a0 Z (.instanceMethod ⟨sT4, "<init>", "(I)V"⟩) := wat hw 225 rfl
theorem e57_44 : Dc kC25 44 (.astore 4) 2 := by decide +kernel
theorem e57_46 : Dc kC25 46 (.iconst 0) 1 := by decide +kernel
theorem e57_47 : Dc kC25 47 (.istore 5) 2 := by decide +kernel
theorem e57_49 : Dc kC25 49 (.iload 5) 2 := by decide +kernel
theorem e57_51 : Dc kC25 51 (.aload_n 2) 1 := by decide +kernel
theorem e57_52 : Dc kC25 52 (.invokevirtual 53) 3 := by decide +kernel
theorem e57_55 : Dc kC25 55 (.if_icmp .ge 50) 3 := by decide +kernel
theorem e57_105 : Dc kC25 105 (.aload 4) 2 := by decide +kernel
theorem e57_107 : Dc kC25 107 (.invokevirtual 93) 3 := by decide +kernel
theorem wd282 (hw : HW a0 Z) : BW a0 Z (.code ⟨sT4, "toString", sT7⟩ kC28 (1 : Nat) (Option.some (Jvm.ClassFile.FieldType.object sT0))) := wat hw 282 rfl
theorem wd281 (hw : HW a0 Z) : BW a0 Z (.selects sT4 ⟨sT4, "toString", sT7⟩ ⟨sT4, "toString", sT7⟩) := wat hw 281 rfl
theorem wd278 (hw : HW a0 Z) : BW a0 Z (.methodLink sT2 (93 : Nat) ⟨sT4, "toString", sT7⟩) := wat hw 278 rfl
theorem wd279 (hw : HW a0 Z) : BW a0 Z (.declares ⟨sT4, "toString", sT7⟩) := wat hw 279 rfl
theorem wd280 (hw : HW a0 Z) : BW a0 Z (.instanceMethod ⟨sT4, "toString", sT7⟩) := wat hw 280 rfl
theorem e57_110 : Dc kC25 110 (.astore_n 3) 1 := by decide +kernel
theorem e57_111 : Dc kC25 111 (.aload_n 3) 1 := by decide +kernel
theorem e57_112 : Dc kC25 112 .areturn 1 := by decide +kernel
theorem e57_58 : Dc kC25 58 (.aload_n 2) 1 := by decide +kernel
theorem e57_59 : Dc kC25 59 (.iload 5) 2 := by decide +kernel
theorem e57_61 : Dc kC25 61 (.invokevirtual 85) 3 := by decide +kernel
theorem wd243 (hw : HW a0 Z) : BW a0 Z (.code ⟨sT0, "charAt", "(I)C"⟩ kC13 (2 : Nat) (Option.some Jvm.ClassFile.FieldType.char)) := wat hw 243 rfl
theorem pd29 : parseMethodDescriptor "(I)C" = some ⟨[.int], some .char⟩ := by decide +kernel
theorem wd242 (hw : HW a0 Z) : BW a0 Z (.selects sT0 ⟨sT0, "charAt", "(I)C"⟩ ⟨sT0, "charAt", "(I)C"⟩) := wat hw 242 rfl
theorem wd239 (hw : HW a0 Z) : BW a0 Z (.methodLink sT2 (85 : Nat) ⟨sT0, "charAt", "(I)C"⟩) := wat hw 239 rfl
theorem wd240 (hw : HW a0 Z) : BW a0 Z (.declares ⟨sT0, "charAt", "(I)C"⟩) := wat hw 240 rfl
theorem wd241 (hw : HW a0 Z) : BW a0 Z (.instanceMethod ⟨sT0, "charAt", "(I)C"⟩) := wat hw 241 rfl
theorem e57_64 : Dc kC25 64 (.istore 6) 2 := by decide +kernel
theorem e57_66 : Dc kC25 66 (.iload 6) 2 := by decide +kernel
theorem e57_68 : Dc kC25 68 (.bipush 47) 2 := by decide +kernel
theorem e57_70 : Dc kC25 70 (.if_icmp .ne 21) 3 := by decide +kernel
theorem e57_73 : Dc kC25 73 (.iload 5) 2 := by decide +kernel
theorem e57_75 : Dc kC25 75 (.ifCond .eq 16) 3 := by decide +kernel
theorem e57_91 : Dc kC25 91 (.aload 4) 2 := by decide +kernel
theorem e57_93 : Dc kC25 93 (.iload 6) 2 := by decide +kernel
theorem e57_95 : Dc kC25 95 (.invokevirtual 89) 3 := by decide +kernel
theorem wd257 (hw : HW a0 Z) : BW a0 Z (.code ⟨sT4, "append", "(C)Ljava/lang/StringBuilder;"⟩ kC26 (2 : Nat) (Option.some (Jvm.ClassFile.FieldType.object sT4))) := wat hw 257 rfl
theorem pd30 : parseMethodDescriptor "(C)Ljava/lang/StringBuilder;" = some ⟨[.char], some (.object "java/lang/StringBuilder")⟩ := by decide +kernel
theorem wd256 (hw : HW a0 Z) : BW a0 Z (.selects sT4 ⟨sT4, "append", "(C)Ljava/lang/StringBuilder;"⟩ ⟨sT4, "append", "(C)Ljava/lang/StringBuilder;"⟩) := wat hw 256 rfl
theorem wd253 (hw : HW a0 Z) : BW a0 Z (.methodLink sT2 (89 : Nat) ⟨sT4, "append", "(C)Ljava/lang/StringBuilder;"⟩) := wat hw 253 rfl
theorem wd254 (hw : HW a0 Z) : BW a0 Z (.declares ⟨sT4, "append", "(C)Ljava/lang/StringBuilder;"⟩) := wat hw 254 rfl
theorem wd255 (hw : HW a0 Z) : BW a0 Z (.instanceMethod ⟨sT4, "append", "(C)Ljava/lang/StringBuilder;"⟩) := wat hw 255 rfl
theorem e57_98 : Dc kC25 98 .pop 1 := by decide +kernel
theorem e57_99 : Dc kC25 99 (.iinc 5 1) 3 := by decide +kernel
theorem e57_102 : Dc kC25 102 (.goto (-53)) 3 := by decide +kernel
theorem e57_78 : Dc kC25 78 (.aload_n 2) 1 := by decide +kernel
theorem e57_79 : Dc kC25 79 (.iload 5) 2 := by decide +kernel
theorem e57_81 : Dc kC25 81 (.iconst 1) 1 := by decide +kernel
theorem e57_82 : Dc kC25 82 .isub 1 := by decide +kernel
theorem e57_83 : Dc kC25 83 (.invokevirtual 85) 3 := by decide +kernel
theorem e57_86 : Dc kC25 86 (.bipush 47) 2 := by decide +kernel
theorem e57_88 : Dc kC25 88 (.if_icmp .eq 11) 3 := by decide +kernel
theorem e57_11 : Dc kC25 11 (.aload_n 0) 1 := by decide +kernel
theorem e57_12 : Dc kC25 12 (.goto 9) 3 := by decide +kernel
def Q_nrm (Z : State) (zC : Int32) (vF : Value) (a1 t : Addr) (kb : ClassId) (cs : List Int32) (n : Nat) (h0 : Heap) (v : Option Value) (h : Heap) (L : List Loc) : Prop := ∃ (r : Addr), ∃ (ct : Addr), ∃ (kc : ClassId), ∃ (ls : List Int32), ∃ (nl : Nat), v = some (.ref r) ∧ Fr Z.heap.size L ∧ Keep h0 h [] ∧ Exa Z h r sT0 ∧ Fld Z h r sT0 "coder" "B" (iv 0) ∧ Fld Z h r sT0 "value" "[B" (.ref ct) ∧ Arv Z h ct kc .byte (Int32.ofNat nl) (ls.map lo8V) (.int 0) ∧ (ls.length = nl) ∧ (nl ≤ 6) ∧ (ALL ls) ∧ (NRM cs ls)
theorem pn9 : plainName "com/example/usage_throttle/usagethrottle/model/EndpointPattern" = true := by first | (simp [plainName, overriddenIn]; done) | decide +kernel
theorem rm_nrm (l : Launch) (Z : State) (a0 : Array Value) (hw : HW a0 Z) (zC : Int32) (vF : Value) (G : GB l a0 Z zC vF) (a1 t : Addr) (kb : ClassId) (cs : List Int32) (n : Nat) (h0 : Heap) (O0 : Old Z Z.heap.size h0) (Pe : Exa Z h0 a1 sT0) (Pc : Fld Z h0 a1 sT0 "coder" "B" (iv 0)) (Pv : Fld Z h0 a1 sT0 "value" "[B" (.ref t)) (PB : Arv Z h0 t kb .byte (Int32.ofNat n) (cs.map lo8V) (.int 0)) (Hn : (cs.length = n)) (Hm : (n ≤ 6)) (Hr : (ALL cs)) :
    ConS l Z EL (⟨sT2, "normalise", "(Ljava/lang/String;)Ljava/lang/String;"⟩ : MethodName) kC25 7 (some (.object sT0)) ({ frames := 6, cells := 8, slots := 42, locals := 104 } : Room) #[(.ref a1)] h0 [] (Q_nrm Z zC vF a1 t kb cs n h0) := by
 refine ConS.intro (plainFor_of_name pn9) ?_
 intro p e s m below meth c T0 v0 X0 hx Y hml hown0 hnm hret hlk hZ0 e0 hS0 C0 hsl0
 have N0 := Fr.nil Z.heap.size
 refine castGo (g' := mkF m 0 #[vr a1, uS, uS, uS, uS, uS, uS] []) (by first | rfl | (simp [entryFrame, mkF, argsToLocals, Value.category]; done)) ?_
 show Go _ _ _ _ (T0.setTop (mkF m 0 #[vr a1, uS, uS, uS, uS, uS, uS] []))
 refine aL X0 hx (hb Y e57_0) (q := 1) rfl rfl rfl ?_
 refine bI X0 hx (hb Y e57_1) (q := 3) rfl (z := 63) rfl ?_
 refine g_vi X0 hx hZ0 hown0 (wd82 hw) (wd83 hw) (notFace_of_selects (args := #[]) (mvT hZ0 (wd85 hw))) (wd85 hw) (wd84 hw) (by decide) Pe e0 (Con.back (W := 0) (rm_io1 l Z a0 hw zC vF G a1 t kb cs n (63 : Int32) h0 O0 Pe Pc Pv PB Hn Hm Hr (by decide : ¬ ((63 : Int32) < (0 : Int32))) (by decide : ¬ ((255 : Int32) < (63 : Int32)))) hZ0 (wd86 hw) (wd9 hw) (by decide) (by decide)) (by rw [hml]; rfl) (lenOf pd26 rfl) rfl (Nat.le_of_eq rfl) (hb Y e57_3) (q := 6) rfl (by decide) (by decide) ?_
 intro v21 T21 L21 X21 Q21
 obtain ⟨ix_21, rfl, Nq21, e21, q21_0⟩ := Q21
 have N21 := Fr.app N0 Nq21
 show Go _ _ _ _ (T21.setTop (mkF m 6 _ [(.int ix_21)]))
 rcases q21_0 with ⟨jq, hj1, rfl, hj3, hj4⟩ | ⟨rfl, hno⟩
 ·have hjn : jq < n := by omega
  show Go _ _ _ _ (T21.setTop (mkF m 6 #[vr a1, uS, uS, uS, uS, uS, uS] [(.int (Int32.ofNat jq))]))
  refine sI X21 hx (hb Y e57_6) (q := 7) rfl (Ls' := #[vr a1, vi (Int32.ofNat jq), uS, uS, uS, uS, uS]) rfl ?_
  refine iL X21 hx (hb Y e57_7) (q := 8) rfl rfl ?_
  refine ifY X21 hx (hb Y e57_8) (q := 15) (by decide) (by decide) ((if0 _ _).trans (flt (on_le (show 0 ≤ jq from by omega) (show jq < 2147483648 from by omega))).2.1) ?_
  refine aL X21 hx (hb Y e57_15) (q := 16) rfl rfl rfl ?_
  refine cI X21 hx (hb Y e57_16) (q := 17) rfl (z := 0) rfl ?_
  refine iL X21 hx (hb Y e57_17) (q := 18) rfl rfl ?_
  refine g_viS X21 hx hZ0 hown0 hS0 (Nat.zero_le _) (wd162 hw) (wd163 hw) (notFace_of_selects (args := #[]) (mvT hZ0 (wd165 hw))) (wd165 hw) (wd164 hw) (by decide) Pe e21 (ConS.back (W := 0) (rm_subs l Z a0 hw zC vF G a1 t kb cs n jq h0 O0 Pe Pc Pv PB Hn Hm Hr (show jq ≤ n from by omega)) hZ0 (wd166 hw) (wd9 hw) (by decide) (by decide) (own_EW hw) C0.1 sf0 all0) (by rw [hml]; rfl) (lenOf pd27 rfl) rfl (Nat.le_of_eq rfl) (hb Y e57_18) (q := 21) rfl (by decide) (by decide) ?_
  rintro v22 T22 L22 ⟨X22, hS22, hZ22, hown22, R22⟩ Q22
  obtain ⟨r_22, ct_22, kc_22, rfl, Nq22, K22q, q22_0, q22_1, q22_2, q22_3⟩ := Q22
  have N22 := Fr.app N21 Nq22
  show Go _ _ _ _ (T22.setTop (mkF m 21 _ [(.ref r_22)]))
  refine sA X22 hx (hb Y e57_21) (q := 22) rfl rfl (Ls' := #[vr a1, vi (Int32.ofNat jq), vr r_22, uS, uS, uS, uS]) rfl ?_
  refine aL X22 hx (hb Y e57_22) (q := 23) rfl rfl rfl ?_
  refine sA X22 hx (hb Y e57_23) (q := 24) rfl rfl (Ls' := #[vr a1, vi (Int32.ofNat jq), vr r_22, vr r_22, uS, uS, uS]) rfl ?_
  refine aL X22 hx (hb Y e57_24) (q := 25) rfl rfl rfl ?_
  have f24 := C0.trans R22
  refine g_ldc X22 hx hZ22 hown22 (wd111 hw) (own_wS hw) hS22 (Nat.le_trans (Nat.le_refl _) (Nat.le_refl _)) (own_EW hw) (by simp [EL]) f24.1 (vs := [(iv 47), (iv 47)]) (z := 2) ⟨by decide, by decide⟩ (by decide) (by decide) (n := 8) (by decide) (by decide) (by decide) (by decide) rfl (hb Y e57_25) (q := 27) rfl ?_
  intro b23 T23 h23 kk23 d23 k23 X23 e23 E23 hS23 hk23 hZ23 hown23 A23 Fc23 Fv23 V23 lta23 ltb23 R23 sn23
  have f30 := q22_0.ext E23
  have f31 := q22_1.ext E23
  have f32 := q22_2.ext E23
  have f33 := q22_3.ext E23
  have f34 := O0.keep K22q all0
  have f35 := f34.ext E23
  refine g_vi X23 hx hZ23 hown23 (wd112 hw) (wd113 hw) (notFace_of_selects (args := #[]) (mvT hZ23 (wd115 hw))) (wd115 hw) (wd114 hw) (by decide) f30 e23 (Con.back (W := 0) (rm_cont l Z a0 hw zC vF G r_22 ct_22 kc_22 (List.take jq cs) jq b23 d23 k23 h23 f35 f30 f31 f32 f33 (tk_len Hn (show jq ≤ n from by omega)) (show jq ≤ 6 from by omega) (tk_all Hr) A23 Fc23 Fv23 V23) hZ23 (wd116 hw) (wd9 hw) (by decide) (by decide)) (by rw [hml]; rfl) (lenOf pd28 rfl) rfl (Nat.le_of_eq rfl) (hb Y e57_27) (q := 30) rfl (by decide) (by decide) ?_
  intro v29 T29 L29 X29 Q29
  obtain ⟨bb_29, rfl, Nq29, e29, q29_0⟩ := Q29
  have N29 := Fr.app N22 Nq29
  show Go _ _ _ _ (T29.setTop (mkF m 30 _ [(.int bb_29)]))
  have f36 := f24.trans R23
  rcases q29_0 with ⟨hD, rfl⟩ | ⟨hD, rfl⟩
  ·show Go _ _ _ _ (T29.setTop (mkF m 30 #[vr a1, vi (Int32.ofNat jq), vr r_22, vr r_22, uS, uS, uS] [(iv 1)]))
   refine ifN X29 hx (hb Y e57_30) (q := 33) rfl (by decide) ?_
   refine g_new X29 hx hZ23 hown23 (wd221 hw) (wd222 hw) (wd223 hw) (by decide) (by decide) e29 (hb Y e57_33) (q := 36) rfl ?_
   intro T37 h37 b37 g37 X37 e37 E37 A37 D37
   have sf38 : Safe Z EL T23.vm h23 b37 := Safe.new (Nat.le_of_eq g37.symm)
   have F37_236 := D37 (Or.inl (wd236 hw)) (ty := (.array .byte)) (by decide)
   have F37_238 := D37 (Or.inl (wd238 hw)) (ty := .byte) (by decide)
   have F37_264 := D37 (Or.inl (wd264 hw)) (ty := .int) (by decide)
   refine g_dup X37 hx (hb Y e57_36) (q := 37) rfl rfl ?_
   refine aL X37 hx (hb Y e57_37) (q := 38) rfl rfl rfl ?_
   have f44 := f30.ext E37
   have f45 := f31.ext E37
   have f46 := f32.ext E37
   have f47 := f33.ext E37
   have f48 := f35.ext E37
   refine g_vi X37 hx hZ23 hown23 (wd161 hw) (wd49 hw) (notFace_of_selects (args := #[]) (mvT hZ23 (wd51 hw))) (wd51 hw) (wd50 hw) (by decide) f44 e37 (Con.back (W := 2) (rm_slen l Z a0 hw zC vF G r_22 ct_22 kc_22 ((List.take jq cs).map lo8V) (Int32.ofNat jq) h37 f48 f44 f45 f46 f47) hZ23 (wd52 hw) (wd9 hw) (by decide) (by decide)) (by rw [hml]; rfl) (lenOf pd5 rfl) rfl (Nat.le_of_eq rfl) (hb Y e57_38) (q := 41) rfl (by decide) (by decide) ?_
   intro v43 T43 L43 X43 Q43
   obtain ⟨rfl, Nq43, e43⟩ := Q43
   have N43 := Fr.app N29 Nq43
   show Go _ _ _ _ (T43.setTop (mkF m 41 _ [(.int (Int32.ofNat jq)), (.ref b37), (.ref b37)]))
   have gz51 : Z.heap.size ≤ b37 := Nat.le_trans f35.2.1 (Nat.le_of_eq g37.symm)
   have f52 := Safe.ext E37 f36.1 sf38
   refine g_sp X43 hx hZ23 hown23 (wd224 hw) (wd225 hw) (wd226 hw) rfl (by decide) e43 (Con.back (W := 1) (rm_sbinit l Z a0 hw zC vF G b37 jq h37 f48 A37 F37_236 F37_238 F37_264 gz51 (show jq ≤ 6 from by omega)) hZ23 (wd226 hw) (wd223 hw) (by decide) (by decide)) (by rw [hml]; rfl) (lenOf pd20 rfl) rfl (Nat.le_of_eq rfl) (hb Y e57_41) (q := 44) rfl (by decide) (by decide) ?_
   intro v50 T50 L50 X50 Q50
   obtain ⟨vv_50, kv_50, rfl, Nq50, K50q, q50_0, q50_1, q50_2, q50_3, q50_4, q50_5, q50_6⟩ := Q50
   have N50 := Fr.app N43 Nq50
   show Go _ _ _ _ (T50.setTop (mkF m 44 _ [(.ref b37)]))
   refine sAw X50 hx (hb Y e57_44) (q := 46) rfl rfl (Ls' := #[vr a1, vi (Int32.ofNat jq), vr r_22, vr r_22, vr b37, uS, uS]) rfl ?_
   refine cI X50 hx (hb Y e57_46) (q := 47) rfl (z := 0) rfl ?_
   refine sIw X50 hx (hb Y e57_47) (q := 49) rfl (Ls' := #[vr a1, vi (Int32.ofNat jq), vr r_22, vr r_22, vr b37, vi 0, uS]) rfl ?_
   have lp53 : ∀ (k53 i53 : Nat) (T53 : State) (h53 : Heap) (L53 : List Loc) (sl53_6 : Slot), i53 + k53 = jq → Stand p l e ({ frames := 6, cells := 8, slots := 42, locals := 104 } : Room) (s.setVm T23.vm) m #[(.ref a1)] below meth c T53 L53 6 32 → T53.heap = h53 → Keep T50.heap h53 [b37, vv_50] → Fr Z.heap.size L53 → (Arv Z h53 vv_50 kv_50 .byte (Int32.ofNat jq) ((sqz (List.take jq cs) i53).map lo8V ++ List.replicate (jq - (sqz (List.take jq cs) i53).length) (.int 0)) (.int 0)) → (Fld Z h53 b37 sT1 "count" "I" (.int (Int32.ofNat (sqz (List.take jq cs) i53).length))) → (Fld Z h53 b37 sT1 "value" "[B" (.ref vv_50)) → (Fld Z h53 b37 sT1 "coder" "B" (iv 0)) → (sl53_6 = .unset ∨ ∃ x : Int32, sl53_6 = vi x) → Go p.tables e below (SEnd Z EL s (Q_nrm Z zC vF a1 t kb cs n h0) ({ frames := 6, cells := 8, slots := 42, locals := 104 } : Room).cells ({ frames := 6, cells := 8, slots := 42, locals := 104 } : Room).slots) (T53.setTop (mkF m 49 #[vr a1, vi (Int32.ofNat jq), vr r_22, vr r_22, vr b37, vi (Int32.ofNat i53), sl53_6] [])) := by
    intro k53
    induction k53 with
    | zero =>
     intro i53 T53 h53 L53 sl53_6 hk53 X53 e53 K53q N53 f53_0 f53_1 f53_2 f53_3 hs53_6
     have hi53 : i53 = jq := by omega
     have nb53 : i53 < 2147483648 := by omega
     have hz53 : ¬ (Int32.ofNat i53 < Int32.ofNat jq) := by rw [hi53]; exact lt_irr
     have sl53 : (sqz (List.take jq cs) i53).length < jq := by rw [hi53]; have q := sqz_lt hD; rw [(tk_len Hn (show jq ≤ n from by omega))] at q; exact q
     have sp53 : 0 < (sqz (List.take jq cs) i53).length := by have q := sl53; exact sqz_pos _ (by rw [hi53]; omega)
     show Go _ _ _ _ (T53.setTop (mkF m 49 #[vr a1, vi (Int32.ofNat jq), vr r_22, vr r_22, vr b37, vi (Int32.ofNat i53), sl53_6] []))
     refine iLw X53 hx (hb Y e57_49) (q := 51) rfl rfl ?_
     refine aL X53 hx (hb Y e57_51) (q := 52) rfl rfl rfl ?_
     have f69 := f44.keep K50q
     have f70 := f69.keep K53q
     have le71 := E23.1
     have ne72 : r_22 ≠ b37 := (Nat.ne_of_lt (Nat.lt_of_lt_of_le (Nat.lt_of_lt_of_le q22_0.lt le71) (Nat.le_of_eq g37.symm)))
     have f73 := f45.keep K50q (ninS ne72 nin0)
     have le74 := (Nat.le_trans le71 E37.1)
     have ne75 : r_22 ≠ vv_50 := (Nat.ne_of_lt (Nat.lt_of_lt_of_le (Nat.lt_of_lt_of_le q22_0.lt le74) q50_4))
     have f76 := f73.keep K53q (ninS ne72 (ninS ne75 nin0))
     have f77 := f46.keep K50q (ninS ne72 nin0)
     have f78 := f77.keep K53q (ninS ne72 (ninS ne75 nin0))
     have ne79 : ct_22 ≠ b37 := (Nat.ne_of_lt (Nat.lt_of_lt_of_le (Nat.lt_of_lt_of_le q22_3.lt le71) (Nat.le_of_eq g37.symm)))
     have f80 := f47.keep K50q (ninS ne79 nin0)
     have ne81 : ct_22 ≠ vv_50 := (Nat.ne_of_lt (Nat.lt_of_lt_of_le (Nat.lt_of_lt_of_le q22_3.lt le74) q50_4))
     have f82 := f80.keep K53q (ninS ne79 (ninS ne81 nin0))
     have f83 := f48.keep K50q (allS gz51 all0)
     have gz84 : Z.heap.size ≤ vv_50 := Nat.le_trans f48.2.1 q50_4
     have f85 := f83.keep K53q (allS gz51 (allS gz84 all0))
     refine g_vi X53 hx hZ23 hown23 (wd161 hw) (wd49 hw) (notFace_of_selects (args := #[]) (mvT hZ23 (wd51 hw))) (wd51 hw) (wd50 hw) (by decide) f70 e53 (Con.back (W := 1) (rm_slen l Z a0 hw zC vF G r_22 ct_22 kc_22 ((List.take jq cs).map lo8V) (Int32.ofNat jq) h53 f85 f70 f76 f78 f82) hZ23 (wd52 hw) (wd9 hw) (by decide) (by decide)) (by rw [hml]; rfl) (lenOf pd5 rfl) rfl (Nat.le_of_eq rfl) (hb Y e57_52) (q := 55) rfl (by decide) (by decide) ?_
     intro v68 T68 L68 X68 Q68
     obtain ⟨rfl, Nq68, e68⟩ := Q68
     have N68 := Fr.app N53 Nq68
     show Go _ _ _ _ (T68.setTop (mkF m 55 _ [(.int (Int32.ofNat jq)), (.int (Int32.ofNat i53))]))
     refine icY X68 hx (hb Y e57_55) (q := 105) (by decide) (by decide) (flt hz53).2.1 ?_
     refine aLw X68 hx (hb Y e57_105) (q := 107) rfl rfl rfl ?_
     have f88 := q50_0.keep K53q
     refine g_vi X68 hx hZ23 hown23 (wd278 hw) (wd279 hw) (notFace_of_selects (args := #[]) (mvT hZ23 (wd281 hw))) (wd281 hw) (wd280 hw) (by decide) f88 e68 (Con.back (W := 0) (rm_tos l Z a0 hw zC vF G b37 vv_50 kv_50 ((sqz (List.take jq cs) i53).map lo8V ++ List.replicate (jq - (sqz (List.take jq cs) i53).length) (.int 0)) jq ((sqz (List.take jq cs) i53).length) h53 f85 f88 f53_3 f53_1 f53_2 f53_0 (vq_len (show i53 ≤ jq from by omega)) sl53 sp53 (show jq ≤ 6 from by omega)) hZ23 (wd282 hw) (wd223 hw) (by decide) (by decide)) (by rw [hml]; rfl) (lenOf pd16 rfl) rfl (Nat.le_of_eq rfl) (hb Y e57_107) (q := 110) rfl (by decide) (by decide) ?_
     intro v87 T87 L87 X87 Q87
     obtain ⟨r_87, c_87, kc_87, rfl, Nq87, K87q, q87_0, q87_1, q87_2, q87_3, q87_4, q87_5⟩ := Q87
     have N87 := Fr.app N68 Nq87
     show Go _ _ _ _ (T87.setTop (mkF m 110 _ [(.ref r_87)]))
     refine sA X87 hx (hb Y e57_110) (q := 111) rfl rfl (Ls' := #[vr a1, vi (Int32.ofNat jq), vr r_22, vr r_87, vr b37, vi (Int32.ofNat i53), sl53_6]) rfl ?_
     refine aL X87 hx (hb Y e57_111) (q := 112) rfl rfl rfl ?_
     have K89 : Keep h0 T22.heap [] := (Keep.refl h0 []).trans K22q all0
     have K90 : Keep h0 h23 [] := K89.ext E23
     have K91 : Keep h0 h37 [] := K90.ext E37
     have le93 := K22q.1
     have le94 := (Nat.le_trans le93 E23.1)
     have gh92 : h0.size ≤ b37 := Nat.le_trans le94 (Nat.le_of_eq g37.symm)
     have K95 : Keep h0 T50.heap [] := K91.trans K50q (allS (Or.inr gh92) all0)
     have le97 := (Nat.le_trans le94 E37.1)
     have gh96 : h0.size ≤ vv_50 := Nat.le_trans le97 q50_4
     have K98 : Keep h0 h53 [] := K95.trans K53q (allS (Or.inr gh92) (allS (Or.inr gh96) all0))
     have K99 : Keep h0 T87.heap [] := K98.trans K87q all0
     have le100 := E37.1
     have le101 := (Nat.le_trans le100 K50q.1)
     have le102 := (Nat.le_trans le101 K53q.1)
     have le103 := (Nat.le_trans le102 K87q.1)
     have f104 := f36.trans (CHr.ext E37 f36.1)
     have f105 := f104.trans (CHr.keep K50q (sfS f52 sf0) f104.1)
     have sf106 : Safe Z EL T23.vm h37 vv_50 := Safe.new q50_4
     have f107 := Safe.keep K50q (sfS f52 sf0) f104.1 sf106
     have f108 := Safe.keep K50q (sfS f52 sf0) f104.1 f52
     have f109 := f105.trans (CHr.keep K53q (sfS f108 (sfS f107 sf0)) f105.1)
     have f110 := f109.trans (CHr.keep K87q sf0 f109.1)
     refine endC X87 hlk hS23 (Nat.le_trans hk23 le103) hZ23 (own_EW hw) f110 (fun h => by rw [hret] at h; cases h) (lastA X87 hx hret rfl rfl rfl (hb Y e57_112)) ?_ (by decide) (by decide)
     refine ⟨r_87, c_87, kc_87, (sqz (List.take jq cs) i53), (sqz (List.take jq cs) i53).length, ?_, ?_, ?_, ?_, ?_, ?_, ?_, ?_, ?_, ?_, ?_⟩
     ·exact rfl
     ·exact N87
     ·exact K99
     ·exact q87_1
     ·exact q87_2
     ·exact q87_3
     ·exact (by have q := q87_5; rw [sub_app (by rw [List.length_map])] at q; exact q)
     ·exact rfl
     ·exact (Nat.le_trans (sqz_le _ _) (by omega))
     ·exact (sqz_ALL (tk_all Hr) _ (by rw [(tk_len Hn (show jq ≤ n from by omega))]; omega))
     ·exact (show NRM cs (sqz (List.take jq cs) i53) from ⟨jq, by omega, Or.inr hj3, hj4, by rw [hi53]⟩)
    | succ k53 ih =>
     intro i53 T53 h53 L53 sl53_6 hk53 X53 e53 K53q N53 f53_0 f53_1 f53_2 f53_3 hs53_6
     have hi53 : i53 < jq := by omega
     have nb53 : i53 < 2147483648 := by omega
     show Go _ _ _ _ (T53.setTop (mkF m 49 #[vr a1, vi (Int32.ofNat jq), vr r_22, vr r_22, vr b37, vi (Int32.ofNat i53), sl53_6] []))
     refine iLw X53 hx (hb Y e57_49) (q := 51) rfl rfl ?_
     refine aL X53 hx (hb Y e57_51) (q := 52) rfl rfl rfl ?_
     have f126 := f44.keep K50q
     have f127 := f126.keep K53q
     have le128 := E23.1
     have ne129 : r_22 ≠ b37 := (Nat.ne_of_lt (Nat.lt_of_lt_of_le (Nat.lt_of_lt_of_le q22_0.lt le128) (Nat.le_of_eq g37.symm)))
     have f130 := f45.keep K50q (ninS ne129 nin0)
     have le131 := (Nat.le_trans le128 E37.1)
     have ne132 : r_22 ≠ vv_50 := (Nat.ne_of_lt (Nat.lt_of_lt_of_le (Nat.lt_of_lt_of_le q22_0.lt le131) q50_4))
     have f133 := f130.keep K53q (ninS ne129 (ninS ne132 nin0))
     have f134 := f46.keep K50q (ninS ne129 nin0)
     have f135 := f134.keep K53q (ninS ne129 (ninS ne132 nin0))
     have ne136 : ct_22 ≠ b37 := (Nat.ne_of_lt (Nat.lt_of_lt_of_le (Nat.lt_of_lt_of_le q22_3.lt le128) (Nat.le_of_eq g37.symm)))
     have f137 := f47.keep K50q (ninS ne136 nin0)
     have ne138 : ct_22 ≠ vv_50 := (Nat.ne_of_lt (Nat.lt_of_lt_of_le (Nat.lt_of_lt_of_le q22_3.lt le131) q50_4))
     have f139 := f137.keep K53q (ninS ne136 (ninS ne138 nin0))
     have f140 := f48.keep K50q (allS gz51 all0)
     have gz141 : Z.heap.size ≤ vv_50 := Nat.le_trans f48.2.1 q50_4
     have f142 := f140.keep K53q (allS gz51 (allS gz141 all0))
     refine g_vi X53 hx hZ23 hown23 (wd161 hw) (wd49 hw) (notFace_of_selects (args := #[]) (mvT hZ23 (wd51 hw))) (wd51 hw) (wd50 hw) (by decide) f127 e53 (Con.back (W := 1) (rm_slen l Z a0 hw zC vF G r_22 ct_22 kc_22 ((List.take jq cs).map lo8V) (Int32.ofNat jq) h53 f142 f127 f133 f135 f139) hZ23 (wd52 hw) (wd9 hw) (by decide) (by decide)) (by rw [hml]; rfl) (lenOf pd5 rfl) rfl (Nat.le_of_eq rfl) (hb Y e57_52) (q := 55) rfl (by decide) (by decide) ?_
     intro v125 T125 L125 X125 Q125
     obtain ⟨rfl, Nq125, e125⟩ := Q125
     have N125 := Fr.app N53 Nq125
     show Go _ _ _ _ (T125.setTop (mkF m 55 _ [(.int (Int32.ofNat jq)), (.int (Int32.ofNat i53))]))
     refine icN X125 hx (hb Y e57_55) (q := 58) rfl (tlt (on_lt hi53 (show jq < 2147483648 from by omega))).2.1 ?_
     refine aL X125 hx (hb Y e57_58) (q := 59) rfl rfl rfl ?_
     refine iLw X125 hx (hb Y e57_59) (q := 61) rfl rfl ?_
     refine g_vi X125 hx hZ23 hown23 (wd239 hw) (wd240 hw) (notFace_of_selects (args := #[]) (mvT hZ23 (wd242 hw))) (wd242 hw) (wd241 hw) (by decide) f127 e125 (Con.back (W := 0) (rm_sca l Z a0 hw zC vF G r_22 ct_22 kc_22 (List.take jq cs) jq i53 h53 f142 f127 f133 f135 f139 (tk_len Hn (show jq ≤ n from by omega)) (show jq ≤ 6 from by omega) (tk_all Hr) (show i53 < jq from by omega)) hZ23 (wd243 hw) (wd9 hw) (by decide) (by decide)) (by rw [hml]; rfl) (lenOf pd29 rfl) rfl (Nat.le_of_eq rfl) (hb Y e57_61) (q := 64) rfl (by decide) (by decide) ?_
     intro v143 T143 L143 X143 Q143
     obtain ⟨yc_143, rfl, Nq143, e143, q143_0, q143_1, q143_2⟩ := Q143
     have N143 := Fr.app N125 Nq143
     show Go _ _ _ _ (T143.setTop (mkF m 64 _ [(.int yc_143)]))
     refine sIw X143 hx (hb Y e57_64) (q := 66) rfl (Ls' := #[vr a1, vi (Int32.ofNat jq), vr r_22, vr r_22, vr b37, vi (Int32.ofNat i53), vi yc_143]) (by rcases hs53_6 with rfl | ⟨_, rfl⟩ <;> rfl) ?_
     refine iLw X143 hx (hb Y e57_66) (q := 68) rfl rfl ?_
     refine bI X143 hx (hb Y e57_68) (q := 70) rfl (z := 47) rfl ?_
     have f144 := f36.trans (CHr.ext E37 f36.1)
     have f145 := f144.trans (CHr.keep K50q (sfS f52 sf0) f144.1)
     have sf146 : Safe Z EL T23.vm h37 vv_50 := Safe.new q50_4
     have f147 := Safe.keep K50q (sfS f52 sf0) f144.1 sf146
     have f148 := Safe.keep K50q (sfS f52 sf0) f144.1 f52
     have f149 := f145.trans (CHr.keep K53q (sfS f148 (sfS f147 sf0)) f145.1)
     have le150 := E37.1
     have le151 := (Nat.le_trans le150 K50q.1)
     have le152 := (Nat.le_trans le151 K53q.1)
     by_cases hc153 : yc_143 = (47 : Int32)
     ·refine icN X143 hx (hb Y e57_70) (q := 73) rfl (teq hc153).2 ?_
      refine iLw X143 hx (hb Y e57_73) (q := 75) rfl rfl ?_
      rcases Nat.eq_zero_or_pos i53 with hz154 | hz154
      ·have hq154 : Int32.ofNat i53 = 0 := by rw [hz154]; rfl
       show Go _ _ _ _ (T143.setTop (mkF m 75 #[vr a1, vi (Int32.ofNat jq), vr r_22, vr r_22, vr b37, vi (Int32.ofNat i53), vi yc_143] [(.int (Int32.ofNat i53))]))
       refine ifY X143 hx (hb Y e57_75) (q := 91) (by decide) (by decide) ((if0 _ _).trans (teq hq154).1) ?_
       refine aLw X143 hx (hb Y e57_91) (q := 93) rfl rfl rfl ?_
       refine iLw X143 hx (hb Y e57_93) (q := 95) rfl rfl ?_
       have f158 := q50_0.keep K53q
       have f159 := Safe.keep K53q (sfS f148 (sfS f147 sf0)) f145.1 f148
       have f160 := Safe.keep K53q (sfS f148 (sfS f147 sf0)) f145.1 f147
       refine g_vi X143 hx hZ23 hown23 (wd253 hw) (wd254 hw) (notFace_of_selects (args := #[]) (mvT hZ23 (wd256 hw))) (wd256 hw) (wd255 hw) (by decide) f158 e143 (Con.back (W := 0) (rm_sac l Z a0 hw zC vF G b37 vv_50 kv_50 ((sqz (List.take jq cs) i53).map lo8V ++ List.replicate (jq - (sqz (List.take jq cs) i53).length) (.int 0)) jq ((sqz (List.take jq cs) i53).length) yc_143 h53 f142 f158 f53_3 f53_1 f53_2 f53_0 (vq_len (show i53 ≤ jq from by omega)) (Nat.lt_of_le_of_lt (sqz_le _ _) hi53) (show jq ≤ 6 from by omega) gz51 gz141 q143_1 q143_2) hZ23 (wd257 hw) (wd223 hw) (by decide) (by decide)) (by rw [hml]; rfl) (lenOf pd30 rfl) rfl (Nat.le_of_eq rfl) (hb Y e57_95) (q := 98) rfl (by decide) (by decide) ?_
       intro v157 T157 L157 X157 Q157
       obtain ⟨rfl, Nq157, K157q, q157_0, q157_1, q157_2, q157_3, q157_4⟩ := Q157
       have N157 := Fr.app N143 Nq157
       show Go _ _ _ _ (T157.setTop (mkF m 98 _ [(.ref b37)]))
       refine g_pop X157 hx (hb Y e57_98) (q := 99) rfl rfl ?_
       refine g_iinc X157 hx (hb Y e57_99) (q := 102) rfl rfl (z := (Int32.ofNat (i53 + 1))) (on_add (i53) 1) (Ls' := #[vr a1, vi (Int32.ofNat jq), vr r_22, vr r_22, vr b37, vi (Int32.ofNat (i53 + 1)), vi yc_143]) rfl ?_
       refine g_goto X157 hx (hb Y e57_102) (q := 49) (by decide) (by decide) ?_
       have hk53 : KEEP (List.take jq cs) i53 := (fun z => z.2.1 hz154)
       have Vs53 : Arv Z T157.heap vv_50 kv_50 .byte (Int32.ofNat jq) ((sqz (List.take jq cs) (i53 + 1)).map lo8V ++ List.replicate (jq - (sqz (List.take jq cs) (i53 + 1)).length) (.int 0)) (.int 0) := by have q := q157_4; rw [vq_yes hi53 hk53 q143_0] at q; exact q
       have Cs53 : Fld Z T157.heap b37 sT1 "count" "I" (.int (Int32.ofNat (sqz (List.take jq cs) (i53 + 1)).length)) := by rw [len_yes hk53]; exact q157_2
       have K178 := (Keep.refl T50.heap [b37, vv_50]).trans K53q (allS (Or.inl (by simp)) (allS (Or.inl (by simp)) all0))
       have K179 := K178.trans K157q (allS (Or.inl (by simp)) (allS (Or.inl (by simp)) all0))
       exact ih (i53 + 1) _ _ _ (vi yc_143) (by omega) X157 rfl K179 N157 Vs53 Cs53 q157_3 q157_1 (Or.inr ⟨_, rfl⟩)
      ·show Go _ _ _ _ (T143.setTop (mkF m 75 #[vr a1, vi (Int32.ofNat jq), vr r_22, vr r_22, vr b37, vi (Int32.ofNat i53), vi yc_143] [(.int (Int32.ofNat i53))]))
       refine ifN X143 hx (hb Y e57_75) (q := 78) rfl ((if0 _ _).trans (feq (fun q => on_ne (i := 0) hz154 (show i53 < 2147483648 from by omega) q.symm)).1) ?_
       refine aL X143 hx (hb Y e57_78) (q := 79) rfl rfl rfl ?_
       refine iLw X143 hx (hb Y e57_79) (q := 81) rfl rfl ?_
       refine cI X143 hx (hb Y e57_81) (q := 82) rfl (z := 1) rfl ?_
       refine g_isub X143 hx (hb Y e57_82) (q := 83) rfl (z := (Int32.ofNat (i53 - 1))) (on_sub (show 1 ≤ i53 from by omega) (show i53 < 2147483648 from by omega)) ?_
       refine g_vi X143 hx hZ23 hown23 (wd239 hw) (wd240 hw) (notFace_of_selects (args := #[]) (mvT hZ23 (wd242 hw))) (wd242 hw) (wd241 hw) (by decide) f127 e143 (Con.back (W := 0) (rm_sca l Z a0 hw zC vF G r_22 ct_22 kc_22 (List.take jq cs) jq (i53 - 1) h53 f142 f127 f133 f135 f139 (tk_len Hn (show jq ≤ n from by omega)) (show jq ≤ 6 from by omega) (tk_all Hr) (show (i53 - 1) < jq from by omega)) hZ23 (wd243 hw) (wd9 hw) (by decide) (by decide)) (by rw [hml]; rfl) (lenOf pd29 rfl) rfl (Nat.le_of_eq rfl) (hb Y e57_83) (q := 86) rfl (by decide) (by decide) ?_
       intro v163 T163 L163 X163 Q163
       obtain ⟨yc_163, rfl, Nq163, e163, q163_0, q163_1, q163_2⟩ := Q163
       have N163 := Fr.app N143 Nq163
       show Go _ _ _ _ (T163.setTop (mkF m 86 _ [(.int yc_163)]))
       refine bI X163 hx (hb Y e57_86) (q := 88) rfl (z := 47) rfl ?_
       by_cases hc164 : yc_163 = (47 : Int32)
       ·refine icY X163 hx (hb Y e57_88) (q := 99) (by decide) (by decide) (teq hc164).1 ?_
        refine g_iinc X163 hx (hb Y e57_99) (q := 102) rfl rfl (z := (Int32.ofNat (i53 + 1))) (on_add (i53) 1) (Ls' := #[vr a1, vi (Int32.ofNat jq), vr r_22, vr r_22, vr b37, vi (Int32.ofNat (i53 + 1)), vi yc_143]) rfl ?_
        refine g_goto X163 hx (hb Y e57_102) (q := 49) (by decide) (by decide) ?_
        have hk53 : ¬ KEEP (List.take jq cs) i53 := fun z => z ⟨q143_0.symm.trans hc153, by omega, q163_0.symm.trans hc164⟩
        have Vs53 : Arv Z h53 vv_50 kv_50 .byte (Int32.ofNat jq) ((sqz (List.take jq cs) (i53 + 1)).map lo8V ++ List.replicate (jq - (sqz (List.take jq cs) (i53 + 1)).length) (.int 0)) (.int 0) := by rw [sqz_no hk53]; exact f53_0
        have Cs53 : Fld Z h53 b37 sT1 "count" "I" (.int (Int32.ofNat (sqz (List.take jq cs) (i53 + 1)).length)) := by rw [sqz_no hk53]; exact f53_1
        have K180 := (Keep.refl T50.heap [b37, vv_50]).trans K53q (allS (Or.inl (by simp)) (allS (Or.inl (by simp)) all0))
        exact ih (i53 + 1) _ _ _ (vi yc_143) (by omega) X163 e163 K180 N163 Vs53 Cs53 f53_2 f53_3 (Or.inr ⟨_, rfl⟩)
       ·refine icN X163 hx (hb Y e57_88) (q := 91) rfl (feq hc164).1 ?_
        refine aLw X163 hx (hb Y e57_91) (q := 93) rfl rfl rfl ?_
        refine iLw X163 hx (hb Y e57_93) (q := 95) rfl rfl ?_
        have f168 := q50_0.keep K53q
        have f169 := Safe.keep K53q (sfS f148 (sfS f147 sf0)) f145.1 f148
        have f170 := Safe.keep K53q (sfS f148 (sfS f147 sf0)) f145.1 f147
        refine g_vi X163 hx hZ23 hown23 (wd253 hw) (wd254 hw) (notFace_of_selects (args := #[]) (mvT hZ23 (wd256 hw))) (wd256 hw) (wd255 hw) (by decide) f168 e163 (Con.back (W := 0) (rm_sac l Z a0 hw zC vF G b37 vv_50 kv_50 ((sqz (List.take jq cs) i53).map lo8V ++ List.replicate (jq - (sqz (List.take jq cs) i53).length) (.int 0)) jq ((sqz (List.take jq cs) i53).length) yc_143 h53 f142 f168 f53_3 f53_1 f53_2 f53_0 (vq_len (show i53 ≤ jq from by omega)) (Nat.lt_of_le_of_lt (sqz_le _ _) hi53) (show jq ≤ 6 from by omega) gz51 gz141 q143_1 q143_2) hZ23 (wd257 hw) (wd223 hw) (by decide) (by decide)) (by rw [hml]; rfl) (lenOf pd30 rfl) rfl (Nat.le_of_eq rfl) (hb Y e57_95) (q := 98) rfl (by decide) (by decide) ?_
        intro v167 T167 L167 X167 Q167
        obtain ⟨rfl, Nq167, K167q, q167_0, q167_1, q167_2, q167_3, q167_4⟩ := Q167
        have N167 := Fr.app N163 Nq167
        show Go _ _ _ _ (T167.setTop (mkF m 98 _ [(.ref b37)]))
        refine g_pop X167 hx (hb Y e57_98) (q := 99) rfl rfl ?_
        refine g_iinc X167 hx (hb Y e57_99) (q := 102) rfl rfl (z := (Int32.ofNat (i53 + 1))) (on_add (i53) 1) (Ls' := #[vr a1, vi (Int32.ofNat jq), vr r_22, vr r_22, vr b37, vi (Int32.ofNat (i53 + 1)), vi yc_143]) rfl ?_
        refine g_goto X167 hx (hb Y e57_102) (q := 49) (by decide) (by decide) ?_
        have hk53 : KEEP (List.take jq cs) i53 := (fun z => hc164 (q163_0.trans z.2.2))
        have Vs53 : Arv Z T167.heap vv_50 kv_50 .byte (Int32.ofNat jq) ((sqz (List.take jq cs) (i53 + 1)).map lo8V ++ List.replicate (jq - (sqz (List.take jq cs) (i53 + 1)).length) (.int 0)) (.int 0) := by have q := q167_4; rw [vq_yes hi53 hk53 q143_0] at q; exact q
        have Cs53 : Fld Z T167.heap b37 sT1 "count" "I" (.int (Int32.ofNat (sqz (List.take jq cs) (i53 + 1)).length)) := by rw [len_yes hk53]; exact q167_2
        have K181 := (Keep.refl T50.heap [b37, vv_50]).trans K53q (allS (Or.inl (by simp)) (allS (Or.inl (by simp)) all0))
        have K182 := K181.trans K167q (allS (Or.inl (by simp)) (allS (Or.inl (by simp)) all0))
        exact ih (i53 + 1) _ _ _ (vi yc_143) (by omega) X167 rfl K182 N167 Vs53 Cs53 q167_3 q167_1 (Or.inr ⟨_, rfl⟩)
     ·refine icY X143 hx (hb Y e57_70) (q := 91) (by decide) (by decide) (feq hc153).2 ?_
      refine aLw X143 hx (hb Y e57_91) (q := 93) rfl rfl rfl ?_
      refine iLw X143 hx (hb Y e57_93) (q := 95) rfl rfl ?_
      have f174 := q50_0.keep K53q
      have f175 := Safe.keep K53q (sfS f148 (sfS f147 sf0)) f145.1 f148
      have f176 := Safe.keep K53q (sfS f148 (sfS f147 sf0)) f145.1 f147
      refine g_vi X143 hx hZ23 hown23 (wd253 hw) (wd254 hw) (notFace_of_selects (args := #[]) (mvT hZ23 (wd256 hw))) (wd256 hw) (wd255 hw) (by decide) f174 e143 (Con.back (W := 0) (rm_sac l Z a0 hw zC vF G b37 vv_50 kv_50 ((sqz (List.take jq cs) i53).map lo8V ++ List.replicate (jq - (sqz (List.take jq cs) i53).length) (.int 0)) jq ((sqz (List.take jq cs) i53).length) yc_143 h53 f142 f174 f53_3 f53_1 f53_2 f53_0 (vq_len (show i53 ≤ jq from by omega)) (Nat.lt_of_le_of_lt (sqz_le _ _) hi53) (show jq ≤ 6 from by omega) gz51 gz141 q143_1 q143_2) hZ23 (wd257 hw) (wd223 hw) (by decide) (by decide)) (by rw [hml]; rfl) (lenOf pd30 rfl) rfl (Nat.le_of_eq rfl) (hb Y e57_95) (q := 98) rfl (by decide) (by decide) ?_
      intro v173 T173 L173 X173 Q173
      obtain ⟨rfl, Nq173, K173q, q173_0, q173_1, q173_2, q173_3, q173_4⟩ := Q173
      have N173 := Fr.app N143 Nq173
      show Go _ _ _ _ (T173.setTop (mkF m 98 _ [(.ref b37)]))
      refine g_pop X173 hx (hb Y e57_98) (q := 99) rfl rfl ?_
      refine g_iinc X173 hx (hb Y e57_99) (q := 102) rfl rfl (z := (Int32.ofNat (i53 + 1))) (on_add (i53) 1) (Ls' := #[vr a1, vi (Int32.ofNat jq), vr r_22, vr r_22, vr b37, vi (Int32.ofNat (i53 + 1)), vi yc_143]) rfl ?_
      refine g_goto X173 hx (hb Y e57_102) (q := 49) (by decide) (by decide) ?_
      have hk53 : KEEP (List.take jq cs) i53 := (fun z => hc153 (q143_0.trans z.1))
      have Vs53 : Arv Z T173.heap vv_50 kv_50 .byte (Int32.ofNat jq) ((sqz (List.take jq cs) (i53 + 1)).map lo8V ++ List.replicate (jq - (sqz (List.take jq cs) (i53 + 1)).length) (.int 0)) (.int 0) := by have q := q173_4; rw [vq_yes hi53 hk53 q143_0] at q; exact q
      have Cs53 : Fld Z T173.heap b37 sT1 "count" "I" (.int (Int32.ofNat (sqz (List.take jq cs) (i53 + 1)).length)) := by rw [len_yes hk53]; exact q173_2
      have K183 := (Keep.refl T50.heap [b37, vv_50]).trans K53q (allS (Or.inl (by simp)) (allS (Or.inl (by simp)) all0))
      have K184 := K183.trans K173q (allS (Or.inl (by simp)) (allS (Or.inl (by simp)) all0))
      exact ih (i53 + 1) _ _ _ (vi yc_143) (by omega) X173 rfl K184 N173 Vs53 Cs53 q173_3 q173_1 (Or.inr ⟨_, rfl⟩)
   exact lp53 (jq - 0) 0 _ _ _ (.unset) (by omega) X50 rfl (Keep.refl _ _) N50 q50_5 q50_3 q50_1 q50_2 (Or.inl rfl)
  ·show Go _ _ _ _ (T29.setTop (mkF m 30 #[vr a1, vi (Int32.ofNat jq), vr r_22, vr r_22, uS, uS, uS] [(iv 0)]))
   refine ifY X29 hx (hb Y e57_30) (q := 111) (by decide) (by decide) (by decide) ?_
   refine aL X29 hx (hb Y e57_111) (q := 112) rfl rfl rfl ?_
   have K185 : Keep h0 T22.heap [] := (Keep.refl h0 []).trans K22q all0
   have K186 : Keep h0 h23 [] := K185.ext E23
   refine endC X29 hlk hS23 (by rw [e29]; exact (Nat.le_trans hk23 (Nat.le_refl _))) hZ23 (own_EW hw) (by rw [e29]; exact f36) (fun h => by rw [hret] at h; cases h) (lastA X29 hx hret rfl rfl rfl (hb Y e57_112)) ?_ (by decide) (by decide)
   rw [e29]
   refine ⟨r_22, ct_22, kc_22, (sqz (List.take jq cs) jq), jq, ?_, ?_, ?_, ?_, ?_, ?_, ?_, ?_, ?_, ?_, ?_⟩
   ·exact rfl
   ·exact N29
   ·exact K186
   ·exact f30
   ·exact f31
   ·exact f32
   ·exact (by rw [sqz_all hD jq (Nat.le_of_eq (tk_len Hn (show jq ≤ n from by omega)).symm), List.take_of_length_le (Nat.le_of_eq (tk_len Hn (show jq ≤ n from by omega)))]; exact f33)
   ·exact (by rw [sqz_all hD jq (Nat.le_of_eq (tk_len Hn (show jq ≤ n from by omega)).symm), List.take_of_length_le (Nat.le_of_eq (tk_len Hn (show jq ≤ n from by omega)))]; exact (tk_len Hn (show jq ≤ n from by omega)))
   ·exact (by omega)
   ·exact (sqz_ALL (tk_all Hr) _ (by rw [(tk_len Hn (show jq ≤ n from by omega))]; omega))
   ·exact (show NRM cs (sqz (List.take jq cs) jq) from ⟨jq, by omega, Or.inr hj3, hj4, rfl⟩)
 ·show Go _ _ _ _ (T21.setTop (mkF m 6 #[vr a1, uS, uS, uS, uS, uS, uS] [(.int (-1 : Int32))]))
  refine sI X21 hx (hb Y e57_6) (q := 7) rfl (Ls' := #[vr a1, vi (-1 : Int32), uS, uS, uS, uS, uS]) rfl ?_
  refine iL X21 hx (hb Y e57_7) (q := 8) rfl rfl ?_
  refine ifN X21 hx (hb Y e57_8) (q := 11) rfl (by decide) ?_
  refine aL X21 hx (hb Y e57_11) (q := 12) rfl rfl rfl ?_
  refine g_goto X21 hx (hb Y e57_12) (q := 21) (by decide) (by decide) ?_
  refine sA X21 hx (hb Y e57_21) (q := 22) rfl rfl (Ls' := #[vr a1, vi (-1 : Int32), vr a1, uS, uS, uS, uS]) rfl ?_
  refine aL X21 hx (hb Y e57_22) (q := 23) rfl rfl rfl ?_
  refine sA X21 hx (hb Y e57_23) (q := 24) rfl rfl (Ls' := #[vr a1, vi (-1 : Int32), vr a1, vr a1, uS, uS, uS]) rfl ?_
  refine aL X21 hx (hb Y e57_24) (q := 25) rfl rfl rfl ?_
  refine g_ldc X21 hx hZ0 hown0 (wd111 hw) (own_wS hw) hS0 (Nat.zero_le _) (own_EW hw) (by simp [EL]) C0.1 (vs := [(iv 47), (iv 47)]) (z := 2) ⟨by decide, by decide⟩ (by decide) (by decide) (n := 8) (by decide) (by decide) (by decide) (by decide) e21 (hb Y e57_25) (q := 27) rfl ?_
  intro b187 T187 h187 kk187 d187 k187 X187 e187 E187 hS187 hk187 hZ187 hown187 A187 Fc187 Fv187 V187 lta187 ltb187 R187 sn187
  have f193 := Pe.ext E187
  have f194 := Pc.ext E187
  have f195 := Pv.ext E187
  have f196 := PB.ext E187
  have f197 := O0.ext E187
  refine g_vi X187 hx hZ187 hown187 (wd112 hw) (wd113 hw) (notFace_of_selects (args := #[]) (mvT hZ187 (wd115 hw))) (wd115 hw) (wd114 hw) (by decide) f193 e187 (Con.back (W := 0) (rm_cont l Z a0 hw zC vF G a1 t kb cs n b187 d187 k187 h187 f197 f193 f194 f195 f196 Hn Hm Hr A187 Fc187 Fv187 V187) hZ187 (wd116 hw) (wd9 hw) (by decide) (by decide)) (by rw [hml]; rfl) (lenOf pd28 rfl) rfl (Nat.le_of_eq rfl) (hb Y e57_27) (q := 30) rfl (by decide) (by decide) ?_
  intro v192 T192 L192 X192 Q192
  obtain ⟨bb_192, rfl, Nq192, e192, q192_0⟩ := Q192
  have N192 := Fr.app N21 Nq192
  show Go _ _ _ _ (T192.setTop (mkF m 30 _ [(.int bb_192)]))
  have f198 := C0.trans R187
  rcases q192_0 with ⟨hD, rfl⟩ | ⟨hD, rfl⟩
  ·show Go _ _ _ _ (T192.setTop (mkF m 30 #[vr a1, vi (-1 : Int32), vr a1, vr a1, uS, uS, uS] [(iv 1)]))
   refine ifN X192 hx (hb Y e57_30) (q := 33) rfl (by decide) ?_
   refine g_new X192 hx hZ187 hown187 (wd221 hw) (wd222 hw) (wd223 hw) (by decide) (by decide) e192 (hb Y e57_33) (q := 36) rfl ?_
   intro T199 h199 b199 g199 X199 e199 E199 A199 D199
   have sf200 : Safe Z EL T187.vm h187 b199 := Safe.new (Nat.le_of_eq g199.symm)
   have F199_236 := D199 (Or.inl (wd236 hw)) (ty := (.array .byte)) (by decide)
   have F199_238 := D199 (Or.inl (wd238 hw)) (ty := .byte) (by decide)
   have F199_264 := D199 (Or.inl (wd264 hw)) (ty := .int) (by decide)
   refine g_dup X199 hx (hb Y e57_36) (q := 37) rfl rfl ?_
   refine aL X199 hx (hb Y e57_37) (q := 38) rfl rfl rfl ?_
   have f206 := f193.ext E199
   have f207 := f194.ext E199
   have f208 := f195.ext E199
   have f209 := f196.ext E199
   have f210 := f197.ext E199
   refine g_vi X199 hx hZ187 hown187 (wd161 hw) (wd49 hw) (notFace_of_selects (args := #[]) (mvT hZ187 (wd51 hw))) (wd51 hw) (wd50 hw) (by decide) f206 e199 (Con.back (W := 2) (rm_slen l Z a0 hw zC vF G a1 t kb (cs.map lo8V) (Int32.ofNat n) h199 f210 f206 f207 f208 f209) hZ187 (wd52 hw) (wd9 hw) (by decide) (by decide)) (by rw [hml]; rfl) (lenOf pd5 rfl) rfl (Nat.le_of_eq rfl) (hb Y e57_38) (q := 41) rfl (by decide) (by decide) ?_
   intro v205 T205 L205 X205 Q205
   obtain ⟨rfl, Nq205, e205⟩ := Q205
   have N205 := Fr.app N192 Nq205
   show Go _ _ _ _ (T205.setTop (mkF m 41 _ [(.int (Int32.ofNat n)), (.ref b199), (.ref b199)]))
   have gz213 : Z.heap.size ≤ b199 := Nat.le_trans f197.2.1 (Nat.le_of_eq g199.symm)
   have f214 := Safe.ext E199 f198.1 sf200
   refine g_sp X205 hx hZ187 hown187 (wd224 hw) (wd225 hw) (wd226 hw) rfl (by decide) e205 (Con.back (W := 1) (rm_sbinit l Z a0 hw zC vF G b199 n h199 f210 A199 F199_236 F199_238 F199_264 gz213 Hm) hZ187 (wd226 hw) (wd223 hw) (by decide) (by decide)) (by rw [hml]; rfl) (lenOf pd20 rfl) rfl (Nat.le_of_eq rfl) (hb Y e57_41) (q := 44) rfl (by decide) (by decide) ?_
   intro v212 T212 L212 X212 Q212
   obtain ⟨vv_212, kv_212, rfl, Nq212, K212q, q212_0, q212_1, q212_2, q212_3, q212_4, q212_5, q212_6⟩ := Q212
   have N212 := Fr.app N205 Nq212
   show Go _ _ _ _ (T212.setTop (mkF m 44 _ [(.ref b199)]))
   refine sAw X212 hx (hb Y e57_44) (q := 46) rfl rfl (Ls' := #[vr a1, vi (-1 : Int32), vr a1, vr a1, vr b199, uS, uS]) rfl ?_
   refine cI X212 hx (hb Y e57_46) (q := 47) rfl (z := 0) rfl ?_
   refine sIw X212 hx (hb Y e57_47) (q := 49) rfl (Ls' := #[vr a1, vi (-1 : Int32), vr a1, vr a1, vr b199, vi 0, uS]) rfl ?_
   have lp215 : ∀ (k215 i215 : Nat) (T215 : State) (h215 : Heap) (L215 : List Loc) (sl215_6 : Slot), i215 + k215 = n → Stand p l e ({ frames := 6, cells := 8, slots := 42, locals := 104 } : Room) (s.setVm T187.vm) m #[(.ref a1)] below meth c T215 L215 4 22 → T215.heap = h215 → Keep T212.heap h215 [b199, vv_212] → Fr Z.heap.size L215 → (Arv Z h215 vv_212 kv_212 .byte (Int32.ofNat n) ((sqz cs i215).map lo8V ++ List.replicate (n - (sqz cs i215).length) (.int 0)) (.int 0)) → (Fld Z h215 b199 sT1 "count" "I" (.int (Int32.ofNat (sqz cs i215).length))) → (Fld Z h215 b199 sT1 "value" "[B" (.ref vv_212)) → (Fld Z h215 b199 sT1 "coder" "B" (iv 0)) → (sl215_6 = .unset ∨ ∃ x : Int32, sl215_6 = vi x) → Go p.tables e below (SEnd Z EL s (Q_nrm Z zC vF a1 t kb cs n h0) ({ frames := 6, cells := 8, slots := 42, locals := 104 } : Room).cells ({ frames := 6, cells := 8, slots := 42, locals := 104 } : Room).slots) (T215.setTop (mkF m 49 #[vr a1, vi (-1 : Int32), vr a1, vr a1, vr b199, vi (Int32.ofNat i215), sl215_6] [])) := by
    intro k215
    induction k215 with
    | zero =>
     intro i215 T215 h215 L215 sl215_6 hk215 X215 e215 K215q N215 f215_0 f215_1 f215_2 f215_3 hs215_6
     have hi215 : i215 = n := by omega
     have nb215 : i215 < 2147483648 := by omega
     have hz215 : ¬ (Int32.ofNat i215 < Int32.ofNat n) := by rw [hi215]; exact lt_irr
     have sl215 : (sqz cs i215).length < n := by rw [hi215]; have q := sqz_lt hD; rw [Hn] at q; exact q
     have sp215 : 0 < (sqz cs i215).length := by have q := sl215; exact sqz_pos _ (by rw [hi215]; omega)
     show Go _ _ _ _ (T215.setTop (mkF m 49 #[vr a1, vi (-1 : Int32), vr a1, vr a1, vr b199, vi (Int32.ofNat i215), sl215_6] []))
     refine iLw X215 hx (hb Y e57_49) (q := 51) rfl rfl ?_
     refine aL X215 hx (hb Y e57_51) (q := 52) rfl rfl rfl ?_
     have f231 := f206.keep K212q
     have f232 := f231.keep K215q
     have le233 := E187.1
     have ne234 : a1 ≠ b199 := (Nat.ne_of_lt (Nat.lt_of_lt_of_le (Nat.lt_of_lt_of_le Pe.lt le233) (Nat.le_of_eq g199.symm)))
     have f235 := f207.keep K212q (ninS ne234 nin0)
     have le236 := (Nat.le_trans le233 E199.1)
     have ne237 : a1 ≠ vv_212 := (Nat.ne_of_lt (Nat.lt_of_lt_of_le (Nat.lt_of_lt_of_le Pe.lt le236) q212_4))
     have f238 := f235.keep K215q (ninS ne234 (ninS ne237 nin0))
     have f239 := f208.keep K212q (ninS ne234 nin0)
     have f240 := f239.keep K215q (ninS ne234 (ninS ne237 nin0))
     have ne241 : t ≠ b199 := (Nat.ne_of_lt (Nat.lt_of_lt_of_le (Nat.lt_of_lt_of_le PB.lt le233) (Nat.le_of_eq g199.symm)))
     have f242 := f209.keep K212q (ninS ne241 nin0)
     have ne243 : t ≠ vv_212 := (Nat.ne_of_lt (Nat.lt_of_lt_of_le (Nat.lt_of_lt_of_le PB.lt le236) q212_4))
     have f244 := f242.keep K215q (ninS ne241 (ninS ne243 nin0))
     have f245 := f210.keep K212q (allS gz213 all0)
     have gz246 : Z.heap.size ≤ vv_212 := Nat.le_trans f210.2.1 q212_4
     have f247 := f245.keep K215q (allS gz213 (allS gz246 all0))
     refine g_vi X215 hx hZ187 hown187 (wd161 hw) (wd49 hw) (notFace_of_selects (args := #[]) (mvT hZ187 (wd51 hw))) (wd51 hw) (wd50 hw) (by decide) f232 e215 (Con.back (W := 1) (rm_slen l Z a0 hw zC vF G a1 t kb (cs.map lo8V) (Int32.ofNat n) h215 f247 f232 f238 f240 f244) hZ187 (wd52 hw) (wd9 hw) (by decide) (by decide)) (by rw [hml]; rfl) (lenOf pd5 rfl) rfl (Nat.le_of_eq rfl) (hb Y e57_52) (q := 55) rfl (by decide) (by decide) ?_
     intro v230 T230 L230 X230 Q230
     obtain ⟨rfl, Nq230, e230⟩ := Q230
     have N230 := Fr.app N215 Nq230
     show Go _ _ _ _ (T230.setTop (mkF m 55 _ [(.int (Int32.ofNat n)), (.int (Int32.ofNat i215))]))
     refine icY X230 hx (hb Y e57_55) (q := 105) (by decide) (by decide) (flt hz215).2.1 ?_
     refine aLw X230 hx (hb Y e57_105) (q := 107) rfl rfl rfl ?_
     have f250 := q212_0.keep K215q
     refine g_vi X230 hx hZ187 hown187 (wd278 hw) (wd279 hw) (notFace_of_selects (args := #[]) (mvT hZ187 (wd281 hw))) (wd281 hw) (wd280 hw) (by decide) f250 e230 (Con.back (W := 0) (rm_tos l Z a0 hw zC vF G b199 vv_212 kv_212 ((sqz cs i215).map lo8V ++ List.replicate (n - (sqz cs i215).length) (.int 0)) n ((sqz cs i215).length) h215 f247 f250 f215_3 f215_1 f215_2 f215_0 (vq_len (show i215 ≤ n from by omega)) sl215 sp215 Hm) hZ187 (wd282 hw) (wd223 hw) (by decide) (by decide)) (by rw [hml]; rfl) (lenOf pd16 rfl) rfl (Nat.le_of_eq rfl) (hb Y e57_107) (q := 110) rfl (by decide) (by decide) ?_
     intro v249 T249 L249 X249 Q249
     obtain ⟨r_249, c_249, kc_249, rfl, Nq249, K249q, q249_0, q249_1, q249_2, q249_3, q249_4, q249_5⟩ := Q249
     have N249 := Fr.app N230 Nq249
     show Go _ _ _ _ (T249.setTop (mkF m 110 _ [(.ref r_249)]))
     refine sA X249 hx (hb Y e57_110) (q := 111) rfl rfl (Ls' := #[vr a1, vi (-1 : Int32), vr a1, vr r_249, vr b199, vi (Int32.ofNat i215), sl215_6]) rfl ?_
     refine aL X249 hx (hb Y e57_111) (q := 112) rfl rfl rfl ?_
     have K251 : Keep h0 h187 [] := (Keep.refl h0 []).ext E187
     have K252 : Keep h0 h199 [] := K251.ext E199
     have gh253 : h0.size ≤ b199 := Nat.le_trans le233 (Nat.le_of_eq g199.symm)
     have K254 : Keep h0 T212.heap [] := K252.trans K212q (allS (Or.inr gh253) all0)
     have gh255 : h0.size ≤ vv_212 := Nat.le_trans le236 q212_4
     have K256 : Keep h0 h215 [] := K254.trans K215q (allS (Or.inr gh253) (allS (Or.inr gh255) all0))
     have K257 : Keep h0 T249.heap [] := K256.trans K249q all0
     have le258 := E199.1
     have le259 := (Nat.le_trans le258 K212q.1)
     have le260 := (Nat.le_trans le259 K215q.1)
     have le261 := (Nat.le_trans le260 K249q.1)
     have f262 := f198.trans (CHr.ext E199 f198.1)
     have f263 := f262.trans (CHr.keep K212q (sfS f214 sf0) f262.1)
     have sf264 : Safe Z EL T187.vm h199 vv_212 := Safe.new q212_4
     have f265 := Safe.keep K212q (sfS f214 sf0) f262.1 sf264
     have f266 := Safe.keep K212q (sfS f214 sf0) f262.1 f214
     have f267 := f263.trans (CHr.keep K215q (sfS f266 (sfS f265 sf0)) f263.1)
     have f268 := f267.trans (CHr.keep K249q sf0 f267.1)
     refine endC X249 hlk hS187 (Nat.le_trans hk187 le261) hZ187 (own_EW hw) f268 (fun h => by rw [hret] at h; cases h) (lastA X249 hx hret rfl rfl rfl (hb Y e57_112)) ?_ (by decide) (by decide)
     refine ⟨r_249, c_249, kc_249, (sqz cs i215), (sqz cs i215).length, ?_, ?_, ?_, ?_, ?_, ?_, ?_, ?_, ?_, ?_, ?_⟩
     ·exact rfl
     ·exact N249
     ·exact K257
     ·exact q249_1
     ·exact q249_2
     ·exact q249_3
     ·exact (by have q := q249_5; rw [sub_app (by rw [List.length_map])] at q; exact q)
     ·exact rfl
     ·exact (Nat.le_trans (sqz_le _ _) (by omega))
     ·exact (sqz_ALL Hr _ (by rw [Hn]; omega))
     ·exact (show NRM cs (sqz cs i215) from ⟨n, by omega, Or.inl Hn.symm, (fun k hk => hno k (by omega)), by rw [List.take_of_length_le (Nat.le_of_eq Hn), hi215]⟩)
    | succ k215 ih =>
     intro i215 T215 h215 L215 sl215_6 hk215 X215 e215 K215q N215 f215_0 f215_1 f215_2 f215_3 hs215_6
     have hi215 : i215 < n := by omega
     have nb215 : i215 < 2147483648 := by omega
     show Go _ _ _ _ (T215.setTop (mkF m 49 #[vr a1, vi (-1 : Int32), vr a1, vr a1, vr b199, vi (Int32.ofNat i215), sl215_6] []))
     refine iLw X215 hx (hb Y e57_49) (q := 51) rfl rfl ?_
     refine aL X215 hx (hb Y e57_51) (q := 52) rfl rfl rfl ?_
     have f284 := f206.keep K212q
     have f285 := f284.keep K215q
     have le286 := E187.1
     have ne287 : a1 ≠ b199 := (Nat.ne_of_lt (Nat.lt_of_lt_of_le (Nat.lt_of_lt_of_le Pe.lt le286) (Nat.le_of_eq g199.symm)))
     have f288 := f207.keep K212q (ninS ne287 nin0)
     have le289 := (Nat.le_trans le286 E199.1)
     have ne290 : a1 ≠ vv_212 := (Nat.ne_of_lt (Nat.lt_of_lt_of_le (Nat.lt_of_lt_of_le Pe.lt le289) q212_4))
     have f291 := f288.keep K215q (ninS ne287 (ninS ne290 nin0))
     have f292 := f208.keep K212q (ninS ne287 nin0)
     have f293 := f292.keep K215q (ninS ne287 (ninS ne290 nin0))
     have ne294 : t ≠ b199 := (Nat.ne_of_lt (Nat.lt_of_lt_of_le (Nat.lt_of_lt_of_le PB.lt le286) (Nat.le_of_eq g199.symm)))
     have f295 := f209.keep K212q (ninS ne294 nin0)
     have ne296 : t ≠ vv_212 := (Nat.ne_of_lt (Nat.lt_of_lt_of_le (Nat.lt_of_lt_of_le PB.lt le289) q212_4))
     have f297 := f295.keep K215q (ninS ne294 (ninS ne296 nin0))
     have f298 := f210.keep K212q (allS gz213 all0)
     have gz299 : Z.heap.size ≤ vv_212 := Nat.le_trans f210.2.1 q212_4
     have f300 := f298.keep K215q (allS gz213 (allS gz299 all0))
     refine g_vi X215 hx hZ187 hown187 (wd161 hw) (wd49 hw) (notFace_of_selects (args := #[]) (mvT hZ187 (wd51 hw))) (wd51 hw) (wd50 hw) (by decide) f285 e215 (Con.back (W := 1) (rm_slen l Z a0 hw zC vF G a1 t kb (cs.map lo8V) (Int32.ofNat n) h215 f300 f285 f291 f293 f297) hZ187 (wd52 hw) (wd9 hw) (by decide) (by decide)) (by rw [hml]; rfl) (lenOf pd5 rfl) rfl (Nat.le_of_eq rfl) (hb Y e57_52) (q := 55) rfl (by decide) (by decide) ?_
     intro v283 T283 L283 X283 Q283
     obtain ⟨rfl, Nq283, e283⟩ := Q283
     have N283 := Fr.app N215 Nq283
     show Go _ _ _ _ (T283.setTop (mkF m 55 _ [(.int (Int32.ofNat n)), (.int (Int32.ofNat i215))]))
     refine icN X283 hx (hb Y e57_55) (q := 58) rfl (tlt (on_lt hi215 (show n < 2147483648 from by omega))).2.1 ?_
     refine aL X283 hx (hb Y e57_58) (q := 59) rfl rfl rfl ?_
     refine iLw X283 hx (hb Y e57_59) (q := 61) rfl rfl ?_
     refine g_vi X283 hx hZ187 hown187 (wd239 hw) (wd240 hw) (notFace_of_selects (args := #[]) (mvT hZ187 (wd242 hw))) (wd242 hw) (wd241 hw) (by decide) f285 e283 (Con.back (W := 0) (rm_sca l Z a0 hw zC vF G a1 t kb cs n i215 h215 f300 f285 f291 f293 f297 Hn Hm Hr (show i215 < n from by omega)) hZ187 (wd243 hw) (wd9 hw) (by decide) (by decide)) (by rw [hml]; rfl) (lenOf pd29 rfl) rfl (Nat.le_of_eq rfl) (hb Y e57_61) (q := 64) rfl (by decide) (by decide) ?_
     intro v301 T301 L301 X301 Q301
     obtain ⟨yc_301, rfl, Nq301, e301, q301_0, q301_1, q301_2⟩ := Q301
     have N301 := Fr.app N283 Nq301
     show Go _ _ _ _ (T301.setTop (mkF m 64 _ [(.int yc_301)]))
     refine sIw X301 hx (hb Y e57_64) (q := 66) rfl (Ls' := #[vr a1, vi (-1 : Int32), vr a1, vr a1, vr b199, vi (Int32.ofNat i215), vi yc_301]) (by rcases hs215_6 with rfl | ⟨_, rfl⟩ <;> rfl) ?_
     refine iLw X301 hx (hb Y e57_66) (q := 68) rfl rfl ?_
     refine bI X301 hx (hb Y e57_68) (q := 70) rfl (z := 47) rfl ?_
     have f302 := f198.trans (CHr.ext E199 f198.1)
     have f303 := f302.trans (CHr.keep K212q (sfS f214 sf0) f302.1)
     have sf304 : Safe Z EL T187.vm h199 vv_212 := Safe.new q212_4
     have f305 := Safe.keep K212q (sfS f214 sf0) f302.1 sf304
     have f306 := Safe.keep K212q (sfS f214 sf0) f302.1 f214
     have f307 := f303.trans (CHr.keep K215q (sfS f306 (sfS f305 sf0)) f303.1)
     have le308 := E199.1
     have le309 := (Nat.le_trans le308 K212q.1)
     have le310 := (Nat.le_trans le309 K215q.1)
     by_cases hc311 : yc_301 = (47 : Int32)
     ·refine icN X301 hx (hb Y e57_70) (q := 73) rfl (teq hc311).2 ?_
      refine iLw X301 hx (hb Y e57_73) (q := 75) rfl rfl ?_
      rcases Nat.eq_zero_or_pos i215 with hz312 | hz312
      ·have hq312 : Int32.ofNat i215 = 0 := by rw [hz312]; rfl
       show Go _ _ _ _ (T301.setTop (mkF m 75 #[vr a1, vi (-1 : Int32), vr a1, vr a1, vr b199, vi (Int32.ofNat i215), vi yc_301] [(.int (Int32.ofNat i215))]))
       refine ifY X301 hx (hb Y e57_75) (q := 91) (by decide) (by decide) ((if0 _ _).trans (teq hq312).1) ?_
       refine aLw X301 hx (hb Y e57_91) (q := 93) rfl rfl rfl ?_
       refine iLw X301 hx (hb Y e57_93) (q := 95) rfl rfl ?_
       have f316 := q212_0.keep K215q
       have f317 := Safe.keep K215q (sfS f306 (sfS f305 sf0)) f303.1 f306
       have f318 := Safe.keep K215q (sfS f306 (sfS f305 sf0)) f303.1 f305
       refine g_vi X301 hx hZ187 hown187 (wd253 hw) (wd254 hw) (notFace_of_selects (args := #[]) (mvT hZ187 (wd256 hw))) (wd256 hw) (wd255 hw) (by decide) f316 e301 (Con.back (W := 0) (rm_sac l Z a0 hw zC vF G b199 vv_212 kv_212 ((sqz cs i215).map lo8V ++ List.replicate (n - (sqz cs i215).length) (.int 0)) n ((sqz cs i215).length) yc_301 h215 f300 f316 f215_3 f215_1 f215_2 f215_0 (vq_len (show i215 ≤ n from by omega)) (Nat.lt_of_le_of_lt (sqz_le _ _) hi215) Hm gz213 gz299 q301_1 q301_2) hZ187 (wd257 hw) (wd223 hw) (by decide) (by decide)) (by rw [hml]; rfl) (lenOf pd30 rfl) rfl (Nat.le_of_eq rfl) (hb Y e57_95) (q := 98) rfl (by decide) (by decide) ?_
       intro v315 T315 L315 X315 Q315
       obtain ⟨rfl, Nq315, K315q, q315_0, q315_1, q315_2, q315_3, q315_4⟩ := Q315
       have N315 := Fr.app N301 Nq315
       show Go _ _ _ _ (T315.setTop (mkF m 98 _ [(.ref b199)]))
       refine g_pop X315 hx (hb Y e57_98) (q := 99) rfl rfl ?_
       refine g_iinc X315 hx (hb Y e57_99) (q := 102) rfl rfl (z := (Int32.ofNat (i215 + 1))) (on_add (i215) 1) (Ls' := #[vr a1, vi (-1 : Int32), vr a1, vr a1, vr b199, vi (Int32.ofNat (i215 + 1)), vi yc_301]) rfl ?_
       refine g_goto X315 hx (hb Y e57_102) (q := 49) (by decide) (by decide) ?_
       have hk215 : KEEP cs i215 := (fun z => z.2.1 hz312)
       have Vs215 : Arv Z T315.heap vv_212 kv_212 .byte (Int32.ofNat n) ((sqz cs (i215 + 1)).map lo8V ++ List.replicate (n - (sqz cs (i215 + 1)).length) (.int 0)) (.int 0) := by have q := q315_4; rw [vq_yes hi215 hk215 q301_0] at q; exact q
       have Cs215 : Fld Z T315.heap b199 sT1 "count" "I" (.int (Int32.ofNat (sqz cs (i215 + 1)).length)) := by rw [len_yes hk215]; exact q315_2
       have K336 := (Keep.refl T212.heap [b199, vv_212]).trans K215q (allS (Or.inl (by simp)) (allS (Or.inl (by simp)) all0))
       have K337 := K336.trans K315q (allS (Or.inl (by simp)) (allS (Or.inl (by simp)) all0))
       exact ih (i215 + 1) _ _ _ (vi yc_301) (by omega) X315 rfl K337 N315 Vs215 Cs215 q315_3 q315_1 (Or.inr ⟨_, rfl⟩)
      ·show Go _ _ _ _ (T301.setTop (mkF m 75 #[vr a1, vi (-1 : Int32), vr a1, vr a1, vr b199, vi (Int32.ofNat i215), vi yc_301] [(.int (Int32.ofNat i215))]))
       refine ifN X301 hx (hb Y e57_75) (q := 78) rfl ((if0 _ _).trans (feq (fun q => on_ne (i := 0) hz312 (show i215 < 2147483648 from by omega) q.symm)).1) ?_
       refine aL X301 hx (hb Y e57_78) (q := 79) rfl rfl rfl ?_
       refine iLw X301 hx (hb Y e57_79) (q := 81) rfl rfl ?_
       refine cI X301 hx (hb Y e57_81) (q := 82) rfl (z := 1) rfl ?_
       refine g_isub X301 hx (hb Y e57_82) (q := 83) rfl (z := (Int32.ofNat (i215 - 1))) (on_sub (show 1 ≤ i215 from by omega) (show i215 < 2147483648 from by omega)) ?_
       refine g_vi X301 hx hZ187 hown187 (wd239 hw) (wd240 hw) (notFace_of_selects (args := #[]) (mvT hZ187 (wd242 hw))) (wd242 hw) (wd241 hw) (by decide) f285 e301 (Con.back (W := 0) (rm_sca l Z a0 hw zC vF G a1 t kb cs n (i215 - 1) h215 f300 f285 f291 f293 f297 Hn Hm Hr (show (i215 - 1) < n from by omega)) hZ187 (wd243 hw) (wd9 hw) (by decide) (by decide)) (by rw [hml]; rfl) (lenOf pd29 rfl) rfl (Nat.le_of_eq rfl) (hb Y e57_83) (q := 86) rfl (by decide) (by decide) ?_
       intro v321 T321 L321 X321 Q321
       obtain ⟨yc_321, rfl, Nq321, e321, q321_0, q321_1, q321_2⟩ := Q321
       have N321 := Fr.app N301 Nq321
       show Go _ _ _ _ (T321.setTop (mkF m 86 _ [(.int yc_321)]))
       refine bI X321 hx (hb Y e57_86) (q := 88) rfl (z := 47) rfl ?_
       by_cases hc322 : yc_321 = (47 : Int32)
       ·refine icY X321 hx (hb Y e57_88) (q := 99) (by decide) (by decide) (teq hc322).1 ?_
        refine g_iinc X321 hx (hb Y e57_99) (q := 102) rfl rfl (z := (Int32.ofNat (i215 + 1))) (on_add (i215) 1) (Ls' := #[vr a1, vi (-1 : Int32), vr a1, vr a1, vr b199, vi (Int32.ofNat (i215 + 1)), vi yc_301]) rfl ?_
        refine g_goto X321 hx (hb Y e57_102) (q := 49) (by decide) (by decide) ?_
        have hk215 : ¬ KEEP cs i215 := fun z => z ⟨q301_0.symm.trans hc311, by omega, q321_0.symm.trans hc322⟩
        have Vs215 : Arv Z h215 vv_212 kv_212 .byte (Int32.ofNat n) ((sqz cs (i215 + 1)).map lo8V ++ List.replicate (n - (sqz cs (i215 + 1)).length) (.int 0)) (.int 0) := by rw [sqz_no hk215]; exact f215_0
        have Cs215 : Fld Z h215 b199 sT1 "count" "I" (.int (Int32.ofNat (sqz cs (i215 + 1)).length)) := by rw [sqz_no hk215]; exact f215_1
        have K338 := (Keep.refl T212.heap [b199, vv_212]).trans K215q (allS (Or.inl (by simp)) (allS (Or.inl (by simp)) all0))
        exact ih (i215 + 1) _ _ _ (vi yc_301) (by omega) X321 e321 K338 N321 Vs215 Cs215 f215_2 f215_3 (Or.inr ⟨_, rfl⟩)
       ·refine icN X321 hx (hb Y e57_88) (q := 91) rfl (feq hc322).1 ?_
        refine aLw X321 hx (hb Y e57_91) (q := 93) rfl rfl rfl ?_
        refine iLw X321 hx (hb Y e57_93) (q := 95) rfl rfl ?_
        have f326 := q212_0.keep K215q
        have f327 := Safe.keep K215q (sfS f306 (sfS f305 sf0)) f303.1 f306
        have f328 := Safe.keep K215q (sfS f306 (sfS f305 sf0)) f303.1 f305
        refine g_vi X321 hx hZ187 hown187 (wd253 hw) (wd254 hw) (notFace_of_selects (args := #[]) (mvT hZ187 (wd256 hw))) (wd256 hw) (wd255 hw) (by decide) f326 e321 (Con.back (W := 0) (rm_sac l Z a0 hw zC vF G b199 vv_212 kv_212 ((sqz cs i215).map lo8V ++ List.replicate (n - (sqz cs i215).length) (.int 0)) n ((sqz cs i215).length) yc_301 h215 f300 f326 f215_3 f215_1 f215_2 f215_0 (vq_len (show i215 ≤ n from by omega)) (Nat.lt_of_le_of_lt (sqz_le _ _) hi215) Hm gz213 gz299 q301_1 q301_2) hZ187 (wd257 hw) (wd223 hw) (by decide) (by decide)) (by rw [hml]; rfl) (lenOf pd30 rfl) rfl (Nat.le_of_eq rfl) (hb Y e57_95) (q := 98) rfl (by decide) (by decide) ?_
        intro v325 T325 L325 X325 Q325
        obtain ⟨rfl, Nq325, K325q, q325_0, q325_1, q325_2, q325_3, q325_4⟩ := Q325
        have N325 := Fr.app N321 Nq325
        show Go _ _ _ _ (T325.setTop (mkF m 98 _ [(.ref b199)]))
        refine g_pop X325 hx (hb Y e57_98) (q := 99) rfl rfl ?_
        refine g_iinc X325 hx (hb Y e57_99) (q := 102) rfl rfl (z := (Int32.ofNat (i215 + 1))) (on_add (i215) 1) (Ls' := #[vr a1, vi (-1 : Int32), vr a1, vr a1, vr b199, vi (Int32.ofNat (i215 + 1)), vi yc_301]) rfl ?_
        refine g_goto X325 hx (hb Y e57_102) (q := 49) (by decide) (by decide) ?_
        have hk215 : KEEP cs i215 := (fun z => hc322 (q321_0.trans z.2.2))
        have Vs215 : Arv Z T325.heap vv_212 kv_212 .byte (Int32.ofNat n) ((sqz cs (i215 + 1)).map lo8V ++ List.replicate (n - (sqz cs (i215 + 1)).length) (.int 0)) (.int 0) := by have q := q325_4; rw [vq_yes hi215 hk215 q301_0] at q; exact q
        have Cs215 : Fld Z T325.heap b199 sT1 "count" "I" (.int (Int32.ofNat (sqz cs (i215 + 1)).length)) := by rw [len_yes hk215]; exact q325_2
        have K339 := (Keep.refl T212.heap [b199, vv_212]).trans K215q (allS (Or.inl (by simp)) (allS (Or.inl (by simp)) all0))
        have K340 := K339.trans K325q (allS (Or.inl (by simp)) (allS (Or.inl (by simp)) all0))
        exact ih (i215 + 1) _ _ _ (vi yc_301) (by omega) X325 rfl K340 N325 Vs215 Cs215 q325_3 q325_1 (Or.inr ⟨_, rfl⟩)
     ·refine icY X301 hx (hb Y e57_70) (q := 91) (by decide) (by decide) (feq hc311).2 ?_
      refine aLw X301 hx (hb Y e57_91) (q := 93) rfl rfl rfl ?_
      refine iLw X301 hx (hb Y e57_93) (q := 95) rfl rfl ?_
      have f332 := q212_0.keep K215q
      have f333 := Safe.keep K215q (sfS f306 (sfS f305 sf0)) f303.1 f306
      have f334 := Safe.keep K215q (sfS f306 (sfS f305 sf0)) f303.1 f305
      refine g_vi X301 hx hZ187 hown187 (wd253 hw) (wd254 hw) (notFace_of_selects (args := #[]) (mvT hZ187 (wd256 hw))) (wd256 hw) (wd255 hw) (by decide) f332 e301 (Con.back (W := 0) (rm_sac l Z a0 hw zC vF G b199 vv_212 kv_212 ((sqz cs i215).map lo8V ++ List.replicate (n - (sqz cs i215).length) (.int 0)) n ((sqz cs i215).length) yc_301 h215 f300 f332 f215_3 f215_1 f215_2 f215_0 (vq_len (show i215 ≤ n from by omega)) (Nat.lt_of_le_of_lt (sqz_le _ _) hi215) Hm gz213 gz299 q301_1 q301_2) hZ187 (wd257 hw) (wd223 hw) (by decide) (by decide)) (by rw [hml]; rfl) (lenOf pd30 rfl) rfl (Nat.le_of_eq rfl) (hb Y e57_95) (q := 98) rfl (by decide) (by decide) ?_
      intro v331 T331 L331 X331 Q331
      obtain ⟨rfl, Nq331, K331q, q331_0, q331_1, q331_2, q331_3, q331_4⟩ := Q331
      have N331 := Fr.app N301 Nq331
      show Go _ _ _ _ (T331.setTop (mkF m 98 _ [(.ref b199)]))
      refine g_pop X331 hx (hb Y e57_98) (q := 99) rfl rfl ?_
      refine g_iinc X331 hx (hb Y e57_99) (q := 102) rfl rfl (z := (Int32.ofNat (i215 + 1))) (on_add (i215) 1) (Ls' := #[vr a1, vi (-1 : Int32), vr a1, vr a1, vr b199, vi (Int32.ofNat (i215 + 1)), vi yc_301]) rfl ?_
      refine g_goto X331 hx (hb Y e57_102) (q := 49) (by decide) (by decide) ?_
      have hk215 : KEEP cs i215 := (fun z => hc311 (q301_0.trans z.1))
      have Vs215 : Arv Z T331.heap vv_212 kv_212 .byte (Int32.ofNat n) ((sqz cs (i215 + 1)).map lo8V ++ List.replicate (n - (sqz cs (i215 + 1)).length) (.int 0)) (.int 0) := by have q := q331_4; rw [vq_yes hi215 hk215 q301_0] at q; exact q
      have Cs215 : Fld Z T331.heap b199 sT1 "count" "I" (.int (Int32.ofNat (sqz cs (i215 + 1)).length)) := by rw [len_yes hk215]; exact q331_2
      have K341 := (Keep.refl T212.heap [b199, vv_212]).trans K215q (allS (Or.inl (by simp)) (allS (Or.inl (by simp)) all0))
      have K342 := K341.trans K331q (allS (Or.inl (by simp)) (allS (Or.inl (by simp)) all0))
      exact ih (i215 + 1) _ _ _ (vi yc_301) (by omega) X331 rfl K342 N331 Vs215 Cs215 q331_3 q331_1 (Or.inr ⟨_, rfl⟩)
   exact lp215 (n - 0) 0 _ _ _ (.unset) (by omega) X212 rfl (Keep.refl _ _) N212 q212_5 q212_3 q212_1 q212_2 (Or.inl rfl)
  ·show Go _ _ _ _ (T192.setTop (mkF m 30 #[vr a1, vi (-1 : Int32), vr a1, vr a1, uS, uS, uS] [(iv 0)]))
   refine ifY X192 hx (hb Y e57_30) (q := 111) (by decide) (by decide) (by decide) ?_
   refine aL X192 hx (hb Y e57_111) (q := 112) rfl rfl rfl ?_
   have K343 : Keep h0 h187 [] := (Keep.refl h0 []).ext E187
   refine endC X192 hlk hS187 (by rw [e192]; exact (Nat.le_trans hk187 (Nat.le_refl _))) hZ187 (own_EW hw) (by rw [e192]; exact f198) (fun h => by rw [hret] at h; cases h) (lastA X192 hx hret rfl rfl rfl (hb Y e57_112)) ?_ (by decide) (by decide)
   rw [e192]
   refine ⟨a1, t, kb, (sqz cs n), n, ?_, ?_, ?_, ?_, ?_, ?_, ?_, ?_, ?_, ?_, ?_⟩
   ·exact rfl
   ·exact N192
   ·exact K343
   ·exact f193
   ·exact f194
   ·exact f195
   ·exact (by rw [sqz_all hD n (Nat.le_of_eq Hn.symm), List.take_of_length_le (Nat.le_of_eq Hn)]; exact f196)
   ·exact (by rw [sqz_all hD n (Nat.le_of_eq Hn.symm), List.take_of_length_le (Nat.le_of_eq Hn)]; exact Hn)
   ·exact Hm
   ·exact (sqz_ALL Hr _ (by rw [Hn]; omega))
   ·exact (show NRM cs (sqz cs n) from ⟨n, by omega, Or.inl Hn.symm, (fun k hk => hno k (by omega)), by rw [List.take_of_length_le (Nat.le_of_eq Hn)]⟩)
theorem e16_0 : Dc kC32 0 (.iload_n 3) 1 := by decide +kernel
theorem e16_1 : Dc kC32 1 (.ifCond .lt 37) 3 := by decide +kernel
theorem e16_4 : Dc kC32 4 (.iload_n 1) 1 := by decide +kernel
theorem e16_5 : Dc kC32 5 (.ifCond .lt 33) 3 := by decide +kernel
theorem e16_8 : Dc kC32 8 (.iload_n 1) 1 := by decide +kernel
theorem e16_9 : Dc kC32 9 .i2l 1 := by decide +kernel
theorem e16_10 : Dc kC32 10 (.aload_n 0) 1 := by decide +kernel
theorem e16_11 : Dc kC32 11 (.invokevirtual 505) 3 := by decide +kernel
theorem e16_14 : Dc kC32 14 .i2l 1 := by decide +kernel
theorem e16_15 : Dc kC32 15 (.iload 4) 2 := by decide +kernel
theorem e16_17 : Dc kC32 17 .i2l 1 := by decide +kernel
theorem e16_18 : Dc kC32 18 .lsub 1 := by decide +kernel
theorem e16_19 : Dc kC32 19 .lcmp 1 := by decide +kernel
theorem e16_20 : Dc kC32 20 (.ifCond .gt 18) 3 := by decide +kernel
theorem e16_38 : Dc kC32 38 (.iconst 0) 1 := by decide +kernel
theorem e16_39 : Dc kC32 39 .ireturn 1 := by decide +kernel
theorem e16_23 : Dc kC32 23 (.iload_n 3) 1 := by decide +kernel
theorem e16_24 : Dc kC32 24 .i2l 1 := by decide +kernel
theorem e16_25 : Dc kC32 25 (.aload_n 2) 1 := by decide +kernel
theorem e16_26 : Dc kC32 26 (.invokevirtual 505) 3 := by decide +kernel
theorem e16_29 : Dc kC32 29 .i2l 1 := by decide +kernel
theorem e16_30 : Dc kC32 30 (.iload 4) 2 := by decide +kernel
theorem e16_32 : Dc kC32 32 .i2l 1 := by decide +kernel
theorem e16_33 : Dc kC32 33 .lsub 1 := by decide +kernel
theorem e16_34 : Dc kC32 34 .lcmp 1 := by decide +kernel
theorem e16_35 : Dc kC32 35 (.ifCond .le 5) 3 := by decide +kernel
theorem e16_40 : Dc kC32 40 (.iload 4) 2 := by decide +kernel
theorem e16_42 : Dc kC32 42 (.ifCond .gt 5) 3 := by decide +kernel
theorem e16_45 : Dc kC32 45 (.iconst 1) 1 := by decide +kernel
theorem e16_46 : Dc kC32 46 .ireturn 1 := by decide +kernel
theorem e16_47 : Dc kC32 47 (.aload_n 0) 1 := by decide +kernel
theorem e16_48 : Dc kC32 48 (.getfield 9) 3 := by decide +kernel
theorem e16_51 : Dc kC32 51 (.astore 5) 2 := by decide +kernel
theorem e16_53 : Dc kC32 53 (.aload_n 2) 1 := by decide +kernel
theorem e16_54 : Dc kC32 54 (.getfield 9) 3 := by decide +kernel
theorem e16_57 : Dc kC32 57 (.astore 6) 2 := by decide +kernel
theorem e16_59 : Dc kC32 59 (.aload_n 0) 1 := by decide +kernel
theorem e16_60 : Dc kC32 60 (.invokevirtual 335) 3 := by decide +kernel
theorem e16_63 : Dc kC32 63 (.istore 7) 2 := by decide +kernel
theorem e16_65 : Dc kC32 65 (.iload 7) 2 := by decide +kernel
theorem e16_67 : Dc kC32 67 (.aload_n 2) 1 := by decide +kernel
theorem e16_68 : Dc kC32 68 (.invokevirtual 335) 3 := by decide +kernel
theorem e16_71 : Dc kC32 71 (.if_icmp .ne 43) 3 := by decide +kernel
theorem e16_74 : Dc kC32 74 (.iload 7) 2 := by decide +kernel
theorem e16_76 : Dc kC32 76 (.iconst 1) 1 := by decide +kernel
theorem e16_77 : Dc kC32 77 (.if_icmp .ne 17) 3 := by decide +kernel
theorem e16_94 : Dc kC32 94 (.aload 5) 2 := by decide +kernel
theorem e16_96 : Dc kC32 96 (.iload_n 1) 1 := by decide +kernel
theorem e16_97 : Dc kC32 97 (.aload 6) 2 := by decide +kernel
theorem e16_99 : Dc kC32 99 (.iload_n 3) 1 := by decide +kernel
theorem e16_100 : Dc kC32 100 (.iload 4) 2 := by decide +kernel
theorem e16_102 : Dc kC32 102 (.invokestatic 607) 3 := by decide +kernel
theorem e16_105 : Dc kC32 105 (.ifCond .ge 7) 3 := by decide +kernel
theorem e16_108 : Dc kC32 108 (.iconst 1) 1 := by decide +kernel
theorem e16_109 : Dc kC32 109 (.goto 4) 3 := by decide +kernel
theorem e16_113 : Dc kC32 113 .ireturn 1 := by decide +kernel
theorem e16_112 : Dc kC32 112 (.iconst 0) 1 := by decide +kernel
def Q_reg (Z : State) (zC : Int32) (vF : Value) (a1 t1 : Addr) (k1 : ClassId) (cs : List Int32) (n : Nat) (a2 t2 : Addr) (k2 : ClassId) (ds : List Int32) (m2 pk : Nat) (h0 : Heap) (v : Option Value) (h : Heap) (L : List Loc) : Prop := ∃ (bb : Int32), v = some (.int bb) ∧ Fr Z.heap.size L ∧ h = h0 ∧ (BIT bb (REG cs ds pk))
theorem rm_reg (l : Launch) (Z : State) (a0 : Array Value) (hw : HW a0 Z) (zC : Int32) (vF : Value) (G : GB l a0 Z zC vF) (a1 t1 : Addr) (k1 : ClassId) (cs : List Int32) (n : Nat) (a2 t2 : Addr) (k2 : ClassId) (ds : List Int32) (m2 pk : Nat) (h0 : Heap) (O0 : Old Z Z.heap.size h0) (Pe1 : Exa Z h0 a1 sT0) (Pc1 : Fld Z h0 a1 sT0 "coder" "B" (iv 0)) (Pv1 : Fld Z h0 a1 sT0 "value" "[B" (.ref t1)) (PB1 : Arv Z h0 t1 k1 .byte (Int32.ofNat n) (cs.map lo8V) (.int 0)) (Hn1 : (cs.length = n)) (Hm1 : (n ≤ 6)) (Hr1 : (ALL cs)) (Pe2 : Exa Z h0 a2 sT0) (Pc2 : Fld Z h0 a2 sT0 "coder" "B" (iv 0)) (Pv2 : Fld Z h0 a2 sT0 "value" "[B" (.ref t2)) (PB2 : Arv Z h0 t2 k2 .byte (Int32.ofNat m2) (ds.map lo8V) (.int 0)) (Hn2 : (ds.length = m2)) (Hm2 : (m2 ≤ 6)) (Hr2 : (ALL ds)) (Hk : (pk ≤ m2)) :
    Con l Z (⟨sT0, "regionMatches", "(ILjava/lang/String;II)Z"⟩ : MethodName) kC32 8 (some .boolean) ({ frames := 2, cells := 0, slots := 0, locals := 27 } : Room) #[(.ref a1), (iv 0), (.ref a2), (iv 0), (.int (Int32.ofNat pk))] h0 (Q_reg Z zC vF a1 t1 k1 cs n a2 t2 k2 ds m2 pk h0) := by
 refine Con.intro (plainFor_of_name pn0) ?_
 intro p e s m below meth c T0 X0 hx Y hml hown0 hnm hret hlk hZ0 e0
 have N0 := Fr.nil Z.heap.size
 refine castGo (g' := mkF m 0 #[vr a1, vi 0, vr a2, vi 0, vi (Int32.ofNat pk), uS, uS, uS] []) (by first | rfl | (simp [entryFrame, mkF, argsToLocals, Value.category]; done)) ?_
 show Go _ _ _ _ (T0.setTop (mkF m 0 #[vr a1, vi 0, vr a2, vi 0, vi (Int32.ofNat pk), uS, uS, uS] []))
 refine iL X0 hx (hb Y e16_0) (q := 1) rfl rfl ?_
 refine ifN X0 hx (hb Y e16_1) (q := 4) rfl (by decide) ?_
 refine iL X0 hx (hb Y e16_4) (q := 5) rfl rfl ?_
 refine ifN X0 hx (hb Y e16_5) (q := 8) rfl (by decide) ?_
 refine iL X0 hx (hb Y e16_8) (q := 9) rfl rfl ?_
 refine g_i2l X0 hx (hb Y e16_9) (q := 10) rfl (jz := (0 : Int64)) (by decide) ?_
 refine aL X0 hx (hb Y e16_10) (q := 11) rfl rfl rfl ?_
 refine g_vi X0 hx hZ0 hown0 (wd48 hw) (wd49 hw) (notFace_of_selects (args := #[]) (mvT hZ0 (wd51 hw))) (wd51 hw) (wd50 hw) (by decide) Pe1 e0 (Con.back (W := 2) (rm_slen l Z a0 hw zC vF G a1 t1 k1 (cs.map lo8V) (Int32.ofNat n) h0 O0 Pe1 Pc1 Pv1 PB1) hZ0 (wd52 hw) (wd9 hw) (by decide) (by decide)) (by rw [hml]; rfl) (lenOf pd5 rfl) rfl (Nat.le_of_eq rfl) (hb Y e16_11) (q := 14) rfl (by decide) (by decide) ?_
 intro v21 T21 L21 X21 Q21
 obtain ⟨rfl, Nq21, e21⟩ := Q21
 have N21 := Fr.app N0 Nq21
 show Go _ _ _ _ (T21.setTop (mkF m 14 _ [(.int (Int32.ofNat n)), (.long (0 : Int64))]))
 refine g_i2l X21 hx (hb Y e16_14) (q := 15) rfl rfl ?_
 refine iLw X21 hx (hb Y e16_15) (q := 17) rfl rfl ?_
 refine g_i2l X21 hx (hb Y e16_17) (q := 18) rfl rfl ?_
 refine g_lsub X21 hx (hb Y e16_18) (q := 19) rfl rfl ?_
 refine g_lcmp X21 hx (hb Y e16_19) (q := 20) rfl rfl ?_
 rcases Nat.lt_or_ge n pk with hf | hf
 ·show Go _ _ _ _ (T21.setTop (mkF m 20 #[vr a1, vi 0, vr a2, vi 0, vi (Int32.ofNat pk), uS, uS, uS] [(.int (lcmpW (0 : Int64) (((Int32.ofNat n).toInt64) - ((Int32.ofNat pk).toInt64))))]))
  refine ifY X21 hx (hb Y e16_20) (q := 38) (by decide) (by decide) ((if0 _ _).trans (tlt (rg_gt (by omega) (by omega) hf)).2.2.1) ?_
  refine cI X21 hx (hb Y e16_38) (q := 39) rfl (z := 0) rfl ?_
  refine endP X21 hlk (fun h => by rw [hret] at h; cases h) (lastN X21 hx (t := .boolean) (z' := (0 : Int32)) hret (by simp) (by decide) (hb Y e16_39)) ?_ (by decide) (by decide)
  rw [e21]
  exact ⟨(0 : Int32), rfl, N21, rfl, (Or.inr ⟨fun z => absurd z.1 (by omega), rfl⟩)⟩
 ·show Go _ _ _ _ (T21.setTop (mkF m 20 #[vr a1, vi 0, vr a2, vi 0, vi (Int32.ofNat pk), uS, uS, uS] [(.int (lcmpW (0 : Int64) (((Int32.ofNat n).toInt64) - ((Int32.ofNat pk).toInt64))))]))
  refine ifN X21 hx (hb Y e16_20) (q := 23) rfl ((if0 _ _).trans (flt (rg_le (by omega) (by omega) hf)).2.2.1) ?_
  refine iL X21 hx (hb Y e16_23) (q := 24) rfl rfl ?_
  refine g_i2l X21 hx (hb Y e16_24) (q := 25) rfl (jz := (0 : Int64)) (by decide) ?_
  refine aL X21 hx (hb Y e16_25) (q := 26) rfl rfl rfl ?_
  refine g_vi X21 hx hZ0 hown0 (wd48 hw) (wd49 hw) (notFace_of_selects (args := #[]) (mvT hZ0 (wd51 hw))) (wd51 hw) (wd50 hw) (by decide) Pe2 e21 (Con.back (W := 2) (rm_slen l Z a0 hw zC vF G a2 t2 k2 (ds.map lo8V) (Int32.ofNat m2) h0 O0 Pe2 Pc2 Pv2 PB2) hZ0 (wd52 hw) (wd9 hw) (by decide) (by decide)) (by rw [hml]; rfl) (lenOf pd5 rfl) rfl (Nat.le_of_eq rfl) (hb Y e16_26) (q := 29) rfl (by decide) (by decide) ?_
  intro v22 T22 L22 X22 Q22
  obtain ⟨rfl, Nq22, e22⟩ := Q22
  have N22 := Fr.app N21 Nq22
  show Go _ _ _ _ (T22.setTop (mkF m 29 _ [(.int (Int32.ofNat m2)), (.long (0 : Int64))]))
  refine g_i2l X22 hx (hb Y e16_29) (q := 30) rfl rfl ?_
  refine iLw X22 hx (hb Y e16_30) (q := 32) rfl rfl ?_
  refine g_i2l X22 hx (hb Y e16_32) (q := 33) rfl rfl ?_
  refine g_lsub X22 hx (hb Y e16_33) (q := 34) rfl rfl ?_
  refine g_lcmp X22 hx (hb Y e16_34) (q := 35) rfl rfl ?_
  refine ifY X22 hx (hb Y e16_35) (q := 40) (by decide) (by decide) ((if0 _ _).trans (flt (rg_le (by omega) (by omega) Hk)).2.2.2) ?_
  refine iLw X22 hx (hb Y e16_40) (q := 42) rfl rfl ?_
  rcases Nat.eq_zero_or_pos pk with hp | hp
  ·have hq : ¬ (0 : Int32) < Int32.ofNat pk := by rw [hp]; exact lt_irr
   show Go _ _ _ _ (T22.setTop (mkF m 42 #[vr a1, vi 0, vr a2, vi 0, vi (Int32.ofNat pk), uS, uS, uS] [(.int (Int32.ofNat pk))]))
   refine ifN X22 hx (hb Y e16_42) (q := 45) rfl ((if0 _ _).trans (flt hq).2.2.1) ?_
   refine cI X22 hx (hb Y e16_45) (q := 46) rfl (z := 1) rfl ?_
   refine endP X22 hlk (fun h => by rw [hret] at h; cases h) (lastN X22 hx (t := .boolean) (z' := (1 : Int32)) hret (by simp) (by decide) (hb Y e16_46)) ?_ (by decide) (by decide)
   rw [e22]
   exact ⟨(1 : Int32), rfl, N22, rfl, (Or.inl ⟨⟨by omega, by omega, fun j hj => absurd hj (by omega)⟩, rfl⟩)⟩
  ·show Go _ _ _ _ (T22.setTop (mkF m 42 #[vr a1, vi 0, vr a2, vi 0, vi (Int32.ofNat pk), uS, uS, uS] [(.int (Int32.ofNat pk))]))
   refine ifY X22 hx (hb Y e16_42) (q := 47) (by decide) (by decide) ((if0 _ _).trans (tlt (on_lt (i := 0) hp (show pk < 2147483648 from by omega))).2.2.1) ?_
   refine aL X22 hx (hb Y e16_47) (q := 48) rfl rfl rfl ?_
   refine g_getF X22 hx hZ0 hown0 (host := "") (Or.inl (wd53 hw)) Via.refl Pv1 e22 (hb Y e16_48) (q := 51) rfl ?_
   intro T23 X23 e23
   refine sAw X23 hx (hb Y e16_51) (q := 53) rfl rfl (Ls' := #[vr a1, vi 0, vr a2, vi 0, vi (Int32.ofNat pk), vr t1, uS, uS]) rfl ?_
   refine aL X23 hx (hb Y e16_53) (q := 54) rfl rfl rfl ?_
   refine g_getF X23 hx hZ0 hown0 (host := "") (Or.inl (wd53 hw)) Via.refl Pv2 e23 (hb Y e16_54) (q := 57) rfl ?_
   intro T24 X24 e24
   refine sAw X24 hx (hb Y e16_57) (q := 59) rfl rfl (Ls' := #[vr a1, vi 0, vr a2, vi 0, vi (Int32.ofNat pk), vr t1, vr t2, uS]) rfl ?_
   refine aL X24 hx (hb Y e16_59) (q := 60) rfl rfl rfl ?_
   refine g_vi X24 hx hZ0 hown0 (wd54 hw) (wd55 hw) (notFace_of_selects (args := #[]) (mvT hZ0 (wd57 hw))) (wd57 hw) (wd56 hw) (by decide) Pe1 e24 (Con.back (W := 0) (rm_coder0 l Z a0 hw zC vF G a1 h0 O0 Pc1) hZ0 (wd58 hw) (wd9 hw) (by decide) (by decide)) (by rw [hml]; rfl) (lenOf pd0 rfl) rfl (Nat.le_of_eq rfl) (hb Y e16_60) (q := 63) rfl (by decide) (by decide) ?_
   intro v25 T25 L25 X25 Q25
   obtain ⟨rfl, Nq25, e25⟩ := Q25
   have N25 := Fr.app N22 Nq25
   show Go _ _ _ _ (T25.setTop (mkF m 63 _ [(iv 0)]))
   refine sIw X25 hx (hb Y e16_63) (q := 65) rfl (Ls' := #[vr a1, vi 0, vr a2, vi 0, vi (Int32.ofNat pk), vr t1, vr t2, vi 0]) rfl ?_
   refine iLw X25 hx (hb Y e16_65) (q := 67) rfl rfl ?_
   refine aL X25 hx (hb Y e16_67) (q := 68) rfl rfl rfl ?_
   refine g_vi X25 hx hZ0 hown0 (wd54 hw) (wd55 hw) (notFace_of_selects (args := #[]) (mvT hZ0 (wd57 hw))) (wd57 hw) (wd56 hw) (by decide) Pe2 e25 (Con.back (W := 1) (rm_coder0 l Z a0 hw zC vF G a2 h0 O0 Pc2) hZ0 (wd58 hw) (wd9 hw) (by decide) (by decide)) (by rw [hml]; rfl) (lenOf pd0 rfl) rfl (Nat.le_of_eq rfl) (hb Y e16_68) (q := 71) rfl (by decide) (by decide) ?_
   intro v26 T26 L26 X26 Q26
   obtain ⟨rfl, Nq26, e26⟩ := Q26
   have N26 := Fr.app N25 Nq26
   show Go _ _ _ _ (T26.setTop (mkF m 71 _ [(iv 0), (iv 0)]))
   refine icN X26 hx (hb Y e16_71) (q := 74) rfl (by decide) ?_
   refine iLw X26 hx (hb Y e16_74) (q := 76) rfl rfl ?_
   refine cI X26 hx (hb Y e16_76) (q := 77) rfl (z := 1) rfl ?_
   refine icY X26 hx (hb Y e16_77) (q := 94) (by decide) (by decide) (by decide) ?_
   refine aLw X26 hx (hb Y e16_94) (q := 96) rfl rfl rfl ?_
   refine iL X26 hx (hb Y e16_96) (q := 97) rfl rfl ?_
   refine aLw X26 hx (hb Y e16_97) (q := 99) rfl rfl rfl ?_
   refine iL X26 hx (hb Y e16_99) (q := 100) rfl rfl ?_
   refine iLw X26 hx (hb Y e16_100) (q := 102) rfl rfl ?_
   refine g_st X26 hx hZ0 hown0 (wd157 hw) (wd158 hw) (wd159 hw) (wd160 hw) (by decide) e26 (Con.back (W := 0) (rm_mm l Z a0 hw zC vF G t1 k1 cs n t2 k2 ds m2 0 0 pk h0 O0 PB1 Hn1 Hm1 Hr1 PB2 Hn2 Hm2 Hr2 (show 0 + pk ≤ n from by omega) (show 0 + pk ≤ m2 from by omega)) hZ0 (wd160 hw) (wd159 hw) (by decide) (by decide)) (by rw [hml]; rfl) (lenOf pd12 rfl) rfl (Nat.le_of_eq rfl) (hb Y e16_102) (q := 105) rfl (by decide) (by decide) ?_
   intro v27 T27 L27 X27 Q27
   obtain ⟨ix_27, rfl, Nq27, e27, q27_0⟩ := Q27
   have N27 := Fr.app N26 Nq27
   show Go _ _ _ _ (T27.setTop (mkF m 105 _ [(.int ix_27)]))
   rcases q27_0 with ⟨hE, rfl⟩ | ⟨hE, hN⟩
   ·show Go _ _ _ _ (T27.setTop (mkF m 105 #[vr a1, vi 0, vr a2, vi 0, vi (Int32.ofNat pk), vr t1, vr t2, vi 0] [(.int (-1 : Int32))]))
    refine ifN X27 hx (hb Y e16_105) (q := 108) rfl (by decide) ?_
    refine cI X27 hx (hb Y e16_108) (q := 109) rfl (z := 1) rfl ?_
    refine g_goto X27 hx (hb Y e16_109) (q := 113) (by decide) (by decide) ?_
    refine endP X27 hlk (fun h => by rw [hret] at h; cases h) (lastN X27 hx (t := .boolean) (z' := (1 : Int32)) hret (by simp) (by decide) (hb Y e16_113)) ?_ (by decide) (by decide)
    rw [e27]
    exact ⟨(1 : Int32), rfl, N27, rfl, (Or.inl ⟨⟨by omega, by omega, hE⟩, rfl⟩)⟩
   ·show Go _ _ _ _ (T27.setTop (mkF m 105 #[vr a1, vi 0, vr a2, vi 0, vi (Int32.ofNat pk), vr t1, vr t2, vi 0] [(.int ix_27)]))
    refine ifY X27 hx (hb Y e16_105) (q := 112) (by decide) (by decide) ((if0 _ _).trans (flt hN).2.1) ?_
    refine cI X27 hx (hb Y e16_112) (q := 113) rfl (z := 0) rfl ?_
    refine endP X27 hlk (fun h => by rw [hret] at h; cases h) (lastN X27 hx (t := .boolean) (z' := (0 : Int32)) hret (by simp) (by decide) (hb Y e16_113)) ?_ (by decide) (by decide)
    rw [e27]
    exact ⟨(0 : Int32), rfl, N27, rfl, (Or.inr ⟨fun z => hE z.2.2, rfl⟩)⟩
theorem e56_0 : Dc kC12 0 (.aload_n 0) 1 := by decide +kernel
theorem e56_1 : Dc kC12 1 (.astore_n 1) 1 := by decide +kernel
theorem e56_2 : Dc kC12 2 (.aload_n 0) 1 := by decide +kernel
theorem e56_3 : Dc kC12 3 (.ldc 48) 2 := by decide +kernel
theorem e56_5 : Dc kC12 5 (.invokevirtual 50) 3 := by decide +kernel
theorem wd47 (hw : HW a0 Z) : BW a0 Z (.code ⟨sT0, "endsWith", sT6⟩ kC36 (2 : Nat) (Option.some Jvm.ClassFile.FieldType.boolean)) := wat hw 47 rfl
theorem pd31 : parseMethodDescriptor "(Ljava/lang/String;)Z" = some ⟨[(.object "java/lang/String")], some .boolean⟩ := by decide +kernel
theorem wd46 (hw : HW a0 Z) : BW a0 Z (.selects sT0 ⟨sT0, "endsWith", sT6⟩ ⟨sT0, "endsWith", sT6⟩) := wat hw 46 rfl
theorem wd43 (hw : HW a0 Z) : BW a0 Z (.methodLink sT2 (50 : Nat) ⟨sT0, "endsWith", sT6⟩) := wat hw 43 rfl
theorem wd44 (hw : HW a0 Z) : BW a0 Z (.declares ⟨sT0, "endsWith", sT6⟩) := wat hw 44 rfl
theorem wd45 (hw : HW a0 Z) : BW a0 Z (.instanceMethod ⟨sT0, "endsWith", sT6⟩) := wat hw 45 rfl
theorem e56_8 : Dc kC12 8 (.ifCond .eq 15) 3 := by decide +kernel
theorem e56_11 : Dc kC12 11 (.aload_n 0) 1 := by decide +kernel
theorem e56_12 : Dc kC12 12 (.iconst 0) 1 := by decide +kernel
theorem e56_13 : Dc kC12 13 (.aload_n 0) 1 := by decide +kernel
theorem e56_14 : Dc kC12 14 (.invokevirtual 53) 3 := by decide +kernel
theorem e56_17 : Dc kC12 17 (.iconst 1) 1 := by decide +kernel
theorem e56_18 : Dc kC12 18 .isub 1 := by decide +kernel
theorem e56_19 : Dc kC12 19 (.invokevirtual 61) 3 := by decide +kernel
theorem e56_22 : Dc kC12 22 (.astore_n 1) 1 := by decide +kernel
theorem e56_23 : Dc kC12 23 (.ldc 40) 2 := by decide +kernel
theorem e56_25 : Dc kC12 25 (.aload_n 0) 1 := by decide +kernel
theorem e56_26 : Dc kC12 26 (.invokevirtual 42) 3 := by decide +kernel
theorem wd71 (hw : HW a0 Z) : BW a0 Z (.code ⟨sT0, "equals", "(Ljava/lang/Object;)Z"⟩ kC33 (3 : Nat) (Option.some Jvm.ClassFile.FieldType.boolean)) := wat hw 71 rfl
theorem pd32 : parseMethodDescriptor "(Ljava/lang/Object;)Z" = some ⟨[(.object "java/lang/Object")], some .boolean⟩ := by decide +kernel
theorem wd70 (hw : HW a0 Z) : BW a0 Z (.selects sT0 ⟨sT0, "equals", "(Ljava/lang/Object;)Z"⟩ ⟨sT0, "equals", "(Ljava/lang/Object;)Z"⟩) := wat hw 70 rfl
theorem wd67 (hw : HW a0 Z) : BW a0 Z (.methodLink sT2 (42 : Nat) ⟨sT0, "equals", "(Ljava/lang/Object;)Z"⟩) := wat hw 67 rfl
theorem wd68 (hw : HW a0 Z) : BW a0 Z (.declares ⟨sT0, "equals", "(Ljava/lang/Object;)Z"⟩) := wat hw 68 rfl
theorem wd69 (hw : HW a0 Z) : BW a0 Z (.instanceMethod ⟨sT0, "equals", "(Ljava/lang/Object;)Z"⟩) := wat hw 69 rfl
theorem e56_29 : Dc kC12 29 (.ifCond .ne 39) 3 := by decide +kernel
theorem e56_68 : Dc kC12 68 (.iconst 1) 1 := by decide +kernel
theorem e56_69 : Dc kC12 69 (.goto 4) 3 := by decide +kernel
theorem e56_73 : Dc kC12 73 .ireturn 1 := by decide +kernel
theorem e56_32 : Dc kC12 32 (.aload_n 1) 1 := by decide +kernel
theorem e56_33 : Dc kC12 33 (.ldc 65) 2 := by decide +kernel
theorem e56_35 : Dc kC12 35 (.invokevirtual 67) 3 := by decide +kernel
theorem wd206 (hw : HW a0 Z) : BW a0 Z (.code ⟨sT0, "startsWith", sT6⟩ kC31 (2 : Nat) (Option.some Jvm.ClassFile.FieldType.boolean)) := wat hw 206 rfl
theorem wd205 (hw : HW a0 Z) : BW a0 Z (.selects sT0 ⟨sT0, "startsWith", sT6⟩ ⟨sT0, "startsWith", sT6⟩) := wat hw 205 rfl
theorem wd202 (hw : HW a0 Z) : BW a0 Z (.methodLink sT2 (67 : Nat) ⟨sT0, "startsWith", sT6⟩) := wat hw 202 rfl
theorem wd203 (hw : HW a0 Z) : BW a0 Z (.declares ⟨sT0, "startsWith", sT6⟩) := wat hw 203 rfl
theorem wd204 (hw : HW a0 Z) : BW a0 Z (.instanceMethod ⟨sT0, "startsWith", sT6⟩) := wat hw 204 rfl
theorem e56_38 : Dc kC12 38 (.ifCond .eq 34) 3 := by decide +kernel
theorem e56_41 : Dc kC12 41 (.aload_n 1) 1 := by decide +kernel
theorem e56_42 : Dc kC12 42 (.bipush 63) 2 := by decide +kernel
theorem e56_44 : Dc kC12 44 (.invokevirtual 70) 3 := by decide +kernel
theorem e56_47 : Dc kC12 47 (.ifCond .ge 25) 3 := by decide +kernel
theorem e56_50 : Dc kC12 50 (.aload_n 1) 1 := by decide +kernel
theorem e56_51 : Dc kC12 51 (.ldc 74) 2 := by decide +kernel
theorem e56_53 : Dc kC12 53 (.invokevirtual 76) 3 := by decide +kernel
theorem e56_56 : Dc kC12 56 (.ifCond .ne 16) 3 := by decide +kernel
theorem e56_59 : Dc kC12 59 (.aload_n 1) 1 := by decide +kernel
theorem e56_60 : Dc kC12 60 (.bipush 42) 2 := by decide +kernel
theorem e56_62 : Dc kC12 62 (.invokevirtual 70) 3 := by decide +kernel
theorem e56_65 : Dc kC12 65 (.ifCond .ge 7) 3 := by decide +kernel
def Q_isp (Z : State) (zC : Int32) (vF : Value) (a1 t : Addr) (kb : ClassId) (ps : List Int32) (n : Nat) (h0 : Heap) (v : Option Value) (h : Heap) (L : List Loc) : Prop := v = some (iv 1) ∧ Fr Z.heap.size L ∧ Keep h0 h []
theorem rm_isp (l : Launch) (Z : State) (a0 : Array Value) (hw : HW a0 Z) (zC : Int32) (vF : Value) (G : GB l a0 Z zC vF) (a1 t : Addr) (kb : ClassId) (ps : List Int32) (n : Nat) (h0 : Heap) (O0 : Old Z Z.heap.size h0) (Pe : Exa Z h0 a1 sT0) (Pc : Fld Z h0 a1 sT0 "coder" "B" (iv 0)) (Pv : Fld Z h0 a1 sT0 "value" "[B" (.ref t)) (PB : Arv Z h0 t kb .byte (Int32.ofNat n) (ps.map lo8V) (.int 0)) (Hn : (ps.length = n)) (Hm : (n ≤ 6)) (Hr : (ALL ps)) (PO : (OKP ps n)) :
    ConS l Z EL (⟨sT2, "isPattern", "(Ljava/lang/String;)Z"⟩ : MethodName) kC12 2 (some .boolean) ({ frames := 5, cells := 10, slots := 50, locals := 93 } : Room) #[(.ref a1)] h0 [] (Q_isp Z zC vF a1 t kb ps n h0) := by
 refine ConS.intro (plainFor_of_name pn9) ?_
 intro p e s m below meth c T0 v0 X0 hx Y hml hown0 hnm hret hlk hZ0 e0 hS0 C0 hsl0
 have N0 := Fr.nil Z.heap.size
 refine castGo (g' := mkF m 0 #[vr a1, uS] []) (by first | rfl | (simp [entryFrame, mkF, argsToLocals, Value.category]; done)) ?_
 show Go _ _ _ _ (T0.setTop (mkF m 0 #[vr a1, uS] []))
 refine aL X0 hx (hb Y e56_0) (q := 1) rfl rfl rfl ?_
 refine sA X0 hx (hb Y e56_1) (q := 2) rfl rfl (Ls' := #[vr a1, vr a1]) rfl ?_
 refine aL X0 hx (hb Y e56_2) (q := 3) rfl rfl rfl ?_
 refine g_ldc X0 hx hZ0 hown0 (wd42 hw) (own_wS hw) hS0 (Nat.zero_le _) (own_EW hw) (by simp [EL]) C0.1 (vs := [(iv 47), (iv 42)]) (z := 2) ⟨by decide, by decide⟩ (by decide) (by decide) (n := 8) (by decide) (by decide) (by decide) (by decide) e0 (hb Y e56_3) (q := 5) rfl ?_
 intro b21 T21 h21 kk21 d21 k21 X21 e21 E21 hS21 hk21 hZ21 hown21 A21 Fc21 Fv21 V21 lta21 ltb21 R21 sn21
 have f27 := Pe.ext E21
 have f28 := Pc.ext E21
 have f29 := Pv.ext E21
 have f30 := PB.ext E21
 have f31 := O0.ext E21
 refine g_vi X21 hx hZ21 hown21 (wd43 hw) (wd44 hw) (notFace_of_selects (args := #[]) (mvT hZ21 (wd46 hw))) (wd46 hw) (wd45 hw) (by decide) f27 e21 (Con.back (W := 0) (rm_ew l Z a0 hw zC vF G a1 t kb ps n b21 d21 k21 ([(47 : Int32), (42 : Int32)] : List Int32) 2 h21 f31 f27 f28 f29 f30 Hn Hm Hr A21 Fc21 Fv21 V21 rfl (show 2 ≤ 6 from by omega) (alS (by decide) (alS (by decide) al0))) hZ21 (wd47 hw) (wd9 hw) (by decide) (by decide)) (by rw [hml]; rfl) (lenOf pd31 rfl) rfl (Nat.le_of_eq rfl) (hb Y e56_5) (q := 8) rfl (by decide) (by decide) ?_
 intro v26 T26 L26 X26 Q26
 obtain ⟨bb_26, rfl, Nq26, e26, q26_0⟩ := Q26
 have N26 := Fr.app N0 Nq26
 show Go _ _ _ _ (T26.setTop (mkF m 8 _ [(.int bb_26)]))
 have f32 := C0.trans R21
 rcases q26_0 with ⟨hE33, rfl⟩ | ⟨hE33, rfl⟩
 ·have h2n : 2 ≤ n := hE33.1
  show Go _ _ _ _ (T26.setTop (mkF m 8 #[vr a1, vr a1] [(iv 1)]))
  refine ifN X26 hx (hb Y e56_8) (q := 11) rfl (by decide) ?_
  refine aL X26 hx (hb Y e56_11) (q := 12) rfl rfl rfl ?_
  refine cI X26 hx (hb Y e56_12) (q := 13) rfl (z := 0) rfl ?_
  refine aL X26 hx (hb Y e56_13) (q := 14) rfl rfl rfl ?_
  refine g_vi X26 hx hZ21 hown21 (wd161 hw) (wd49 hw) (notFace_of_selects (args := #[]) (mvT hZ21 (wd51 hw))) (wd51 hw) (wd50 hw) (by decide) f27 e26 (Con.back (W := 2) (rm_slen l Z a0 hw zC vF G a1 t kb (ps.map lo8V) (Int32.ofNat n) h21 f31 f27 f28 f29 f30) hZ21 (wd52 hw) (wd9 hw) (by decide) (by decide)) (by rw [hml]; rfl) (lenOf pd5 rfl) rfl (Nat.le_of_eq rfl) (hb Y e56_14) (q := 17) rfl (by decide) (by decide) ?_
  intro v34 T34 L34 X34 Q34
  obtain ⟨rfl, Nq34, e34⟩ := Q34
  have N34 := Fr.app N26 Nq34
  show Go _ _ _ _ (T34.setTop (mkF m 17 _ [(.int (Int32.ofNat n)), (iv 0), (.ref a1)]))
  refine cI X34 hx (hb Y e56_17) (q := 18) rfl (z := 1) rfl ?_
  refine g_isub X34 hx (hb Y e56_18) (q := 19) rfl (z := (Int32.ofNat (n - 1))) (on_sub (show 1 ≤ n from by omega) (show n < 2147483648 from by omega)) ?_
  refine g_viS X34 hx hZ21 hown21 hS21 (Nat.le_trans hk21 (Nat.le_refl _)) (wd162 hw) (wd163 hw) (notFace_of_selects (args := #[]) (mvT hZ21 (wd165 hw))) (wd165 hw) (wd164 hw) (by decide) f27 e34 (ConS.back (W := 0) (rm_subs l Z a0 hw zC vF G a1 t kb ps n (n - 1) h21 f31 f27 f28 f29 f30 Hn Hm Hr (show (n - 1) ≤ n from by omega)) hZ21 (wd166 hw) (wd9 hw) (by decide) (by decide) (own_EW hw) f32.1 sf0 all0) (by rw [hml]; rfl) (lenOf pd27 rfl) rfl (Nat.le_of_eq rfl) (hb Y e56_19) (q := 22) rfl (by decide) (by decide) ?_
  rintro v35 T35 L35 ⟨X35, hS35, hZ35, hown35, R35⟩ Q35
  obtain ⟨r_35, ct_35, kc_35, rfl, Nq35, K35q, q35_0, q35_1, q35_2, q35_3⟩ := Q35
  have N35 := Fr.app N34 Nq35
  show Go _ _ _ _ (T35.setTop (mkF m 22 _ [(.ref r_35)]))
  refine sA X35 hx (hb Y e56_22) (q := 23) rfl rfl (Ls' := #[vr a1, vr r_35]) rfl ?_
  have f37 := f32.trans R35
  refine g_ldc X35 hx hZ35 hown35 (wd66 hw) (own_wS hw) hS35 (Nat.le_trans (Nat.le_refl _) (Nat.le_refl _)) (own_EW hw) (by simp [EL]) f37.1 (vs := [(iv 42)]) (z := 1) ⟨by decide, by decide⟩ (by decide) (by decide) (n := 4) (by decide) (by decide) (by decide) (by decide) rfl (hb Y e56_23) (q := 25) rfl ?_
  intro b36 T36 h36 kk36 d36 k36 X36 e36 E36 hS36 hk36 hZ36 hown36 A36 Fc36 Fv36 V36 lta36 ltb36 R36 sn36
  refine aL X36 hx (hb Y e56_25) (q := 26) rfl rfl rfl ?_
  have f47 := f27.keep K35q
  have f48 := f47.ext E36
  have f49 := f28.keep K35q nin0
  have f50 := f49.ext E36
  have f51 := f29.keep K35q nin0
  have f52 := f51.ext E36
  have f53 := f30.keep K35q nin0
  have f54 := f53.ext E36
  have f55 := f31.keep K35q all0
  have f56 := f55.ext E36
  refine g_vi X36 hx hZ36 hown36 (wd67 hw) (wd68 hw) (notFace_of_selects (args := #[]) (mvT hZ36 (wd70 hw))) (wd70 hw) (wd69 hw) (by decide) A36 e36 (Con.back (W := 0) (rm_seqg l Z a0 hw zC vF G b36 d36 k36 ([(42 : Int32)] : List Int32) 1 a1 t kb ps n h36 f56 A36 Fc36 Fv36 V36 rfl (show 1 ≤ 6 from by omega) (alS (by decide) al0) f48 f50 f52 f54 Hn Hm Hr) hZ36 (wd71 hw) (wd9 hw) (by decide) (by decide)) (by rw [hml]; rfl) (lenOf pd32 rfl) rfl (Nat.le_of_eq rfl) (hb Y e56_26) (q := 29) rfl (by decide) (by decide) ?_
  intro v46 T46 L46 X46 Q46
  obtain ⟨bb_46, rfl, Nq46, e46, q46_0⟩ := Q46
  have N46 := Fr.app N35 Nq46
  show Go _ _ _ _ (T46.setTop (mkF m 29 _ [(.int bb_46)]))
  have f57 := f37.trans R36
  rcases q46_0 with ⟨hE58, rfl⟩ | ⟨hE58, rfl⟩
  ·show Go _ _ _ _ (T46.setTop (mkF m 29 #[vr a1, vr r_35] [(iv 1)]))
   refine ifY X46 hx (hb Y e56_29) (q := 68) (by decide) (by decide) (by decide) ?_
   refine cI X46 hx (hb Y e56_68) (q := 69) rfl (z := 1) rfl ?_
   refine g_goto X46 hx (hb Y e56_69) (q := 73) (by decide) (by decide) ?_
   have K59 : Keep h0 h21 [] := (Keep.refl h0 []).ext E21
   have K60 : Keep h0 T35.heap [] := K59.trans K35q all0
   have K61 : Keep h0 h36 [] := K60.ext E36
   refine endC X46 hlk hS36 (by rw [e46]; exact (Nat.le_trans hk36 (Nat.le_refl _))) hZ36 (own_EW hw) (by rw [e46]; exact f57) (fun h => by rw [hret] at h; cases h) (lastN X46 hx (t := .boolean) (z' := (1 : Int32)) hret (by simp) (by decide) (hb Y e56_73)) ?_ (by decide) (by decide)
   rw [e46]
   exact ⟨rfl, N46, K61⟩
  ·have hQ : QOK (List.take (n - 1) ps) := PO.elim (fun z => absurd z hE58) (fun z => z.elim (fun y => y.2) (fun y => absurd hE33 y.1))
   have hQl : (List.take (n - 1) ps).length = (n - 1) := (tk_len Hn (show n - 1 ≤ n from by omega))
   show Go _ _ _ _ (T46.setTop (mkF m 29 #[vr a1, vr r_35] [(iv 0)]))
   refine ifN X46 hx (hb Y e56_29) (q := 32) rfl (by decide) ?_
   refine aL X46 hx (hb Y e56_32) (q := 33) rfl rfl rfl ?_
   refine g_ldc X46 hx hZ36 hown36 (wd201 hw) (own_wS hw) hS36 (Nat.le_trans hk36 (Nat.le_refl _)) (own_EW hw) (by simp [EL]) f57.1 (vs := [(iv 47)]) (z := 1) ⟨by decide, by decide⟩ (by decide) (by decide) (n := 4) (by decide) (by decide) (by decide) (by decide) e46 (hb Y e56_33) (q := 35) rfl ?_
   intro b62 T62 h62 kk62 d62 k62 X62 e62 E62 hS62 hk62 hZ62 hown62 A62 Fc62 Fv62 V62 lta62 ltb62 R62 sn62
   have f72 := q35_0.ext E36
   have f73 := f72.ext E62
   have f74 := q35_1.ext E36
   have f75 := f74.ext E62
   have f76 := q35_2.ext E36
   have f77 := f76.ext E62
   have f78 := q35_3.ext E36
   have f79 := f78.ext E62
   have f80 := f56.ext E62
   refine g_vi X62 hx hZ62 hown62 (wd202 hw) (wd203 hw) (notFace_of_selects (args := #[]) (mvT hZ62 (wd205 hw))) (wd205 hw) (wd204 hw) (by decide) f73 e62 (Con.back (W := 0) (rm_sw1 l Z a0 hw zC vF G r_35 ct_35 kc_35 (List.take (n - 1) ps) (n - 1) b62 d62 k62 ([(47 : Int32)] : List Int32) 1 h62 f80 f73 f75 f77 f79 (tk_len Hn (show n - 1 ≤ n from by omega)) (show (n - 1) ≤ 6 from by omega) (tk_all Hr) A62 Fc62 Fv62 V62 rfl (show 1 ≤ 6 from by omega) (alS (by decide) al0)) hZ62 (wd206 hw) (wd9 hw) (by decide) (by decide)) (by rw [hml]; rfl) (lenOf pd31 rfl) rfl (Nat.le_of_eq rfl) (hb Y e56_35) (q := 38) rfl (by decide) (by decide) ?_
   intro v71 T71 L71 X71 Q71
   obtain ⟨bb_71, rfl, Nq71, e71, q71_0⟩ := Q71
   have N71 := Fr.app N46 Nq71
   show Go _ _ _ _ (T71.setTop (mkF m 38 _ [(.int bb_71)]))
   have f81 := f57.trans R62
   rcases q71_0 with ⟨hE82, rfl⟩ | ⟨hE82, rfl⟩
   ·show Go _ _ _ _ (T71.setTop (mkF m 38 #[vr a1, vr r_35] [(iv 1)]))
    refine ifN X71 hx (hb Y e56_38) (q := 41) rfl (by decide) ?_
    refine aL X71 hx (hb Y e56_41) (q := 42) rfl rfl rfl ?_
    refine bI X71 hx (hb Y e56_42) (q := 44) rfl (z := 63) rfl ?_
    refine g_vi X71 hx hZ62 hown62 (wd82 hw) (wd83 hw) (notFace_of_selects (args := #[]) (mvT hZ62 (wd85 hw))) (wd85 hw) (wd84 hw) (by decide) f73 e71 (Con.back (W := 0) (rm_io1 l Z a0 hw zC vF G r_35 ct_35 kc_35 (List.take (n - 1) ps) (n - 1) (63 : Int32) h62 f80 f73 f75 f77 f79 (tk_len Hn (show n - 1 ≤ n from by omega)) (show (n - 1) ≤ 6 from by omega) (tk_all Hr) (by decide : ¬ ((63 : Int32) < (0 : Int32))) (by decide : ¬ ((255 : Int32) < (63 : Int32)))) hZ62 (wd86 hw) (wd9 hw) (by decide) (by decide)) (by rw [hml]; rfl) (lenOf pd26 rfl) rfl (Nat.le_of_eq rfl) (hb Y e56_44) (q := 47) rfl (by decide) (by decide) ?_
    intro v83 T83 L83 X83 Q83
    obtain ⟨ix_83, rfl, Nq83, e83, q83_0⟩ := Q83
    have N83 := Fr.app N71 Nq83
    show Go _ _ _ _ (T83.setTop (mkF m 47 _ [(.int ix_83)]))
    rcases q83_0 with ⟨jq, hj1, rfl, hj3, hj4⟩ | ⟨rfl, hno⟩
    ·exact absurd hj3 (hQ.2.1 jq hj1)
    ·show Go _ _ _ _ (T83.setTop (mkF m 47 #[vr a1, vr r_35] [(.int (-1 : Int32))]))
     refine ifN X83 hx (hb Y e56_47) (q := 50) rfl (by decide) ?_
     refine aL X83 hx (hb Y e56_50) (q := 51) rfl rfl rfl ?_
     refine g_ldc X83 hx hZ62 hown62 (wd111 hw) (own_wS hw) hS62 (Nat.le_trans hk62 (Nat.le_refl _)) (own_EW hw) (by simp [EL]) f81.1 (vs := [(iv 47), (iv 47)]) (z := 2) ⟨by decide, by decide⟩ (by decide) (by decide) (n := 8) (by decide) (by decide) (by decide) (by decide) e83 (hb Y e56_51) (q := 53) rfl ?_
     intro b84 T84 h84 kk84 d84 k84 X84 e84 E84 hS84 hk84 hZ84 hown84 A84 Fc84 Fv84 V84 lta84 ltb84 R84 sn84
     have f90 := f73.ext E84
     have f91 := f75.ext E84
     have f92 := f77.ext E84
     have f93 := f79.ext E84
     have f94 := f80.ext E84
     refine g_vi X84 hx hZ84 hown84 (wd112 hw) (wd113 hw) (notFace_of_selects (args := #[]) (mvT hZ84 (wd115 hw))) (wd115 hw) (wd114 hw) (by decide) f90 e84 (Con.back (W := 0) (rm_cont l Z a0 hw zC vF G r_35 ct_35 kc_35 (List.take (n - 1) ps) (n - 1) b84 d84 k84 h84 f94 f90 f91 f92 f93 (tk_len Hn (show n - 1 ≤ n from by omega)) (show (n - 1) ≤ 6 from by omega) (tk_all Hr) A84 Fc84 Fv84 V84) hZ84 (wd116 hw) (wd9 hw) (by decide) (by decide)) (by rw [hml]; rfl) (lenOf pd28 rfl) rfl (Nat.le_of_eq rfl) (hb Y e56_53) (q := 56) rfl (by decide) (by decide) ?_
     intro v89 T89 L89 X89 Q89
     obtain ⟨bb_89, rfl, Nq89, e89, q89_0⟩ := Q89
     have N89 := Fr.app N83 Nq89
     show Go _ _ _ _ (T89.setTop (mkF m 56 _ [(.int bb_89)]))
     have f95 := f81.trans R84
     rcases q89_0 with ⟨hE96, rfl⟩ | ⟨hE96, rfl⟩
     ·exact absurd hE96 hQ.2.2.1
     ·show Go _ _ _ _ (T89.setTop (mkF m 56 #[vr a1, vr r_35] [(iv 0)]))
      refine ifN X89 hx (hb Y e56_56) (q := 59) rfl (by decide) ?_
      refine aL X89 hx (hb Y e56_59) (q := 60) rfl rfl rfl ?_
      refine bI X89 hx (hb Y e56_60) (q := 62) rfl (z := 42) rfl ?_
      refine g_vi X89 hx hZ84 hown84 (wd82 hw) (wd83 hw) (notFace_of_selects (args := #[]) (mvT hZ84 (wd85 hw))) (wd85 hw) (wd84 hw) (by decide) f90 e89 (Con.back (W := 0) (rm_io1 l Z a0 hw zC vF G r_35 ct_35 kc_35 (List.take (n - 1) ps) (n - 1) (42 : Int32) h84 f94 f90 f91 f92 f93 (tk_len Hn (show n - 1 ≤ n from by omega)) (show (n - 1) ≤ 6 from by omega) (tk_all Hr) (by decide : ¬ ((42 : Int32) < (0 : Int32))) (by decide : ¬ ((255 : Int32) < (42 : Int32)))) hZ84 (wd86 hw) (wd9 hw) (by decide) (by decide)) (by rw [hml]; rfl) (lenOf pd26 rfl) rfl (Nat.le_of_eq rfl) (hb Y e56_62) (q := 65) rfl (by decide) (by decide) ?_
      intro v97 T97 L97 X97 Q97
      obtain ⟨ix_97, rfl, Nq97, e97, q97_0⟩ := Q97
      have N97 := Fr.app N89 Nq97
      show Go _ _ _ _ (T97.setTop (mkF m 65 _ [(.int ix_97)]))
      rcases q97_0 with ⟨jq, hj1, rfl, hj3, hj4⟩ | ⟨rfl, hno⟩
      ·exact absurd hj3 (hQ.2.2.2 jq hj1)
      ·show Go _ _ _ _ (T97.setTop (mkF m 65 #[vr a1, vr r_35] [(.int (-1 : Int32))]))
       refine ifN X97 hx (hb Y e56_65) (q := 68) rfl (by decide) ?_
       refine cI X97 hx (hb Y e56_68) (q := 69) rfl (z := 1) rfl ?_
       refine g_goto X97 hx (hb Y e56_69) (q := 73) (by decide) (by decide) ?_
       have K98 : Keep h0 h21 [] := (Keep.refl h0 []).ext E21
       have K99 : Keep h0 T35.heap [] := K98.trans K35q all0
       have K100 : Keep h0 h36 [] := K99.ext E36
       have K101 : Keep h0 h62 [] := K100.ext E62
       have K102 : Keep h0 h84 [] := K101.ext E84
       refine endC X97 hlk hS84 (by rw [e97]; exact (Nat.le_trans hk84 (Nat.le_refl _))) hZ84 (own_EW hw) (by rw [e97]; exact f95) (fun h => by rw [hret] at h; cases h) (lastN X97 hx (t := .boolean) (z' := (1 : Int32)) hret (by simp) (by decide) (hb Y e56_73)) ?_ (by decide) (by decide)
       rw [e97]
       exact ⟨rfl, N97, K102⟩
   ·exact absurd (show 1 ≤ (n - 1) ∧ EQS (List.take (n - 1) ps) 0 [47] 0 1 from ⟨hQl ▸ hQ.1.1, hQ.1.2⟩) hE82
 ·show Go _ _ _ _ (T26.setTop (mkF m 8 #[vr a1, vr a1] [(iv 0)]))
  refine ifY X26 hx (hb Y e56_8) (q := 23) (by decide) (by decide) (by decide) ?_
  refine g_ldc X26 hx hZ21 hown21 (wd66 hw) (own_wS hw) hS21 (Nat.le_trans hk21 (Nat.le_refl _)) (own_EW hw) (by simp [EL]) f32.1 (vs := [(iv 42)]) (z := 1) ⟨by decide, by decide⟩ (by decide) (by decide) (n := 4) (by decide) (by decide) (by decide) (by decide) e26 (hb Y e56_23) (q := 25) rfl ?_
  intro b103 T103 h103 kk103 d103 k103 X103 e103 E103 hS103 hk103 hZ103 hown103 A103 Fc103 Fv103 V103 lta103 ltb103 R103 sn103
  refine aL X103 hx (hb Y e56_25) (q := 26) rfl rfl rfl ?_
  have f109 := f27.ext E103
  have f110 := f28.ext E103
  have f111 := f29.ext E103
  have f112 := f30.ext E103
  have f113 := f31.ext E103
  refine g_vi X103 hx hZ103 hown103 (wd67 hw) (wd68 hw) (notFace_of_selects (args := #[]) (mvT hZ103 (wd70 hw))) (wd70 hw) (wd69 hw) (by decide) A103 e103 (Con.back (W := 0) (rm_seqg l Z a0 hw zC vF G b103 d103 k103 ([(42 : Int32)] : List Int32) 1 a1 t kb ps n h103 f113 A103 Fc103 Fv103 V103 rfl (show 1 ≤ 6 from by omega) (alS (by decide) al0) f109 f110 f111 f112 Hn Hm Hr) hZ103 (wd71 hw) (wd9 hw) (by decide) (by decide)) (by rw [hml]; rfl) (lenOf pd32 rfl) rfl (Nat.le_of_eq rfl) (hb Y e56_26) (q := 29) rfl (by decide) (by decide) ?_
  intro v108 T108 L108 X108 Q108
  obtain ⟨bb_108, rfl, Nq108, e108, q108_0⟩ := Q108
  have N108 := Fr.app N26 Nq108
  show Go _ _ _ _ (T108.setTop (mkF m 29 _ [(.int bb_108)]))
  have f114 := f32.trans R103
  rcases q108_0 with ⟨hE115, rfl⟩ | ⟨hE115, rfl⟩
  ·show Go _ _ _ _ (T108.setTop (mkF m 29 #[vr a1, vr a1] [(iv 1)]))
   refine ifY X108 hx (hb Y e56_29) (q := 68) (by decide) (by decide) (by decide) ?_
   refine cI X108 hx (hb Y e56_68) (q := 69) rfl (z := 1) rfl ?_
   refine g_goto X108 hx (hb Y e56_69) (q := 73) (by decide) (by decide) ?_
   have K116 : Keep h0 h21 [] := (Keep.refl h0 []).ext E21
   have K117 : Keep h0 h103 [] := K116.ext E103
   refine endC X108 hlk hS103 (by rw [e108]; exact (Nat.le_trans hk103 (Nat.le_refl _))) hZ103 (own_EW hw) (by rw [e108]; exact f114) (fun h => by rw [hret] at h; cases h) (lastN X108 hx (t := .boolean) (z' := (1 : Int32)) hret (by simp) (by decide) (hb Y e56_73)) ?_ (by decide) (by decide)
   rw [e108]
   exact ⟨rfl, N108, K117⟩
  ·have hQ : QOK ps := PO.elim (fun z => absurd z hE115) (fun z => z.elim (fun y => absurd y.1 hE33) (fun y => y.2))
   have hQl : ps.length = n := Hn
   show Go _ _ _ _ (T108.setTop (mkF m 29 #[vr a1, vr a1] [(iv 0)]))
   refine ifN X108 hx (hb Y e56_29) (q := 32) rfl (by decide) ?_
   refine aL X108 hx (hb Y e56_32) (q := 33) rfl rfl rfl ?_
   refine g_ldc X108 hx hZ103 hown103 (wd201 hw) (own_wS hw) hS103 (Nat.le_trans hk103 (Nat.le_refl _)) (own_EW hw) (by simp [EL]) f114.1 (vs := [(iv 47)]) (z := 1) ⟨by decide, by decide⟩ (by decide) (by decide) (n := 4) (by decide) (by decide) (by decide) (by decide) e108 (hb Y e56_33) (q := 35) rfl ?_
   intro b118 T118 h118 kk118 d118 k118 X118 e118 E118 hS118 hk118 hZ118 hown118 A118 Fc118 Fv118 V118 lta118 ltb118 R118 sn118
   have f124 := f109.ext E118
   have f125 := f110.ext E118
   have f126 := f111.ext E118
   have f127 := f112.ext E118
   have f128 := f113.ext E118
   refine g_vi X118 hx hZ118 hown118 (wd202 hw) (wd203 hw) (notFace_of_selects (args := #[]) (mvT hZ118 (wd205 hw))) (wd205 hw) (wd204 hw) (by decide) f124 e118 (Con.back (W := 0) (rm_sw1 l Z a0 hw zC vF G a1 t kb ps n b118 d118 k118 ([(47 : Int32)] : List Int32) 1 h118 f128 f124 f125 f126 f127 Hn Hm Hr A118 Fc118 Fv118 V118 rfl (show 1 ≤ 6 from by omega) (alS (by decide) al0)) hZ118 (wd206 hw) (wd9 hw) (by decide) (by decide)) (by rw [hml]; rfl) (lenOf pd31 rfl) rfl (Nat.le_of_eq rfl) (hb Y e56_35) (q := 38) rfl (by decide) (by decide) ?_
   intro v123 T123 L123 X123 Q123
   obtain ⟨bb_123, rfl, Nq123, e123, q123_0⟩ := Q123
   have N123 := Fr.app N108 Nq123
   show Go _ _ _ _ (T123.setTop (mkF m 38 _ [(.int bb_123)]))
   have f129 := f114.trans R118
   rcases q123_0 with ⟨hE130, rfl⟩ | ⟨hE130, rfl⟩
   ·show Go _ _ _ _ (T123.setTop (mkF m 38 #[vr a1, vr a1] [(iv 1)]))
    refine ifN X123 hx (hb Y e56_38) (q := 41) rfl (by decide) ?_
    refine aL X123 hx (hb Y e56_41) (q := 42) rfl rfl rfl ?_
    refine bI X123 hx (hb Y e56_42) (q := 44) rfl (z := 63) rfl ?_
    refine g_vi X123 hx hZ118 hown118 (wd82 hw) (wd83 hw) (notFace_of_selects (args := #[]) (mvT hZ118 (wd85 hw))) (wd85 hw) (wd84 hw) (by decide) f124 e123 (Con.back (W := 0) (rm_io1 l Z a0 hw zC vF G a1 t kb ps n (63 : Int32) h118 f128 f124 f125 f126 f127 Hn Hm Hr (by decide : ¬ ((63 : Int32) < (0 : Int32))) (by decide : ¬ ((255 : Int32) < (63 : Int32)))) hZ118 (wd86 hw) (wd9 hw) (by decide) (by decide)) (by rw [hml]; rfl) (lenOf pd26 rfl) rfl (Nat.le_of_eq rfl) (hb Y e56_44) (q := 47) rfl (by decide) (by decide) ?_
    intro v131 T131 L131 X131 Q131
    obtain ⟨ix_131, rfl, Nq131, e131, q131_0⟩ := Q131
    have N131 := Fr.app N123 Nq131
    show Go _ _ _ _ (T131.setTop (mkF m 47 _ [(.int ix_131)]))
    rcases q131_0 with ⟨jq, hj1, rfl, hj3, hj4⟩ | ⟨rfl, hno⟩
    ·exact absurd hj3 (hQ.2.1 jq hj1)
    ·show Go _ _ _ _ (T131.setTop (mkF m 47 #[vr a1, vr a1] [(.int (-1 : Int32))]))
     refine ifN X131 hx (hb Y e56_47) (q := 50) rfl (by decide) ?_
     refine aL X131 hx (hb Y e56_50) (q := 51) rfl rfl rfl ?_
     refine g_ldc X131 hx hZ118 hown118 (wd111 hw) (own_wS hw) hS118 (Nat.le_trans hk118 (Nat.le_refl _)) (own_EW hw) (by simp [EL]) f129.1 (vs := [(iv 47), (iv 47)]) (z := 2) ⟨by decide, by decide⟩ (by decide) (by decide) (n := 8) (by decide) (by decide) (by decide) (by decide) e131 (hb Y e56_51) (q := 53) rfl ?_
     intro b132 T132 h132 kk132 d132 k132 X132 e132 E132 hS132 hk132 hZ132 hown132 A132 Fc132 Fv132 V132 lta132 ltb132 R132 sn132
     have f138 := f124.ext E132
     have f139 := f125.ext E132
     have f140 := f126.ext E132
     have f141 := f127.ext E132
     have f142 := f128.ext E132
     refine g_vi X132 hx hZ132 hown132 (wd112 hw) (wd113 hw) (notFace_of_selects (args := #[]) (mvT hZ132 (wd115 hw))) (wd115 hw) (wd114 hw) (by decide) f138 e132 (Con.back (W := 0) (rm_cont l Z a0 hw zC vF G a1 t kb ps n b132 d132 k132 h132 f142 f138 f139 f140 f141 Hn Hm Hr A132 Fc132 Fv132 V132) hZ132 (wd116 hw) (wd9 hw) (by decide) (by decide)) (by rw [hml]; rfl) (lenOf pd28 rfl) rfl (Nat.le_of_eq rfl) (hb Y e56_53) (q := 56) rfl (by decide) (by decide) ?_
     intro v137 T137 L137 X137 Q137
     obtain ⟨bb_137, rfl, Nq137, e137, q137_0⟩ := Q137
     have N137 := Fr.app N131 Nq137
     show Go _ _ _ _ (T137.setTop (mkF m 56 _ [(.int bb_137)]))
     have f143 := f129.trans R132
     rcases q137_0 with ⟨hE144, rfl⟩ | ⟨hE144, rfl⟩
     ·exact absurd hE144 hQ.2.2.1
     ·show Go _ _ _ _ (T137.setTop (mkF m 56 #[vr a1, vr a1] [(iv 0)]))
      refine ifN X137 hx (hb Y e56_56) (q := 59) rfl (by decide) ?_
      refine aL X137 hx (hb Y e56_59) (q := 60) rfl rfl rfl ?_
      refine bI X137 hx (hb Y e56_60) (q := 62) rfl (z := 42) rfl ?_
      refine g_vi X137 hx hZ132 hown132 (wd82 hw) (wd83 hw) (notFace_of_selects (args := #[]) (mvT hZ132 (wd85 hw))) (wd85 hw) (wd84 hw) (by decide) f138 e137 (Con.back (W := 0) (rm_io1 l Z a0 hw zC vF G a1 t kb ps n (42 : Int32) h132 f142 f138 f139 f140 f141 Hn Hm Hr (by decide : ¬ ((42 : Int32) < (0 : Int32))) (by decide : ¬ ((255 : Int32) < (42 : Int32)))) hZ132 (wd86 hw) (wd9 hw) (by decide) (by decide)) (by rw [hml]; rfl) (lenOf pd26 rfl) rfl (Nat.le_of_eq rfl) (hb Y e56_62) (q := 65) rfl (by decide) (by decide) ?_
      intro v145 T145 L145 X145 Q145
      obtain ⟨ix_145, rfl, Nq145, e145, q145_0⟩ := Q145
      have N145 := Fr.app N137 Nq145
      show Go _ _ _ _ (T145.setTop (mkF m 65 _ [(.int ix_145)]))
      rcases q145_0 with ⟨jq, hj1, rfl, hj3, hj4⟩ | ⟨rfl, hno⟩
      ·exact absurd hj3 (hQ.2.2.2 jq hj1)
      ·show Go _ _ _ _ (T145.setTop (mkF m 65 #[vr a1, vr a1] [(.int (-1 : Int32))]))
       refine ifN X145 hx (hb Y e56_65) (q := 68) rfl (by decide) ?_
       refine cI X145 hx (hb Y e56_68) (q := 69) rfl (z := 1) rfl ?_
       refine g_goto X145 hx (hb Y e56_69) (q := 73) (by decide) (by decide) ?_
       have K146 : Keep h0 h21 [] := (Keep.refl h0 []).ext E21
       have K147 : Keep h0 h103 [] := K146.ext E103
       have K148 : Keep h0 h118 [] := K147.ext E118
       have K149 : Keep h0 h132 [] := K148.ext E132
       refine endC X145 hlk hS132 (by rw [e145]; exact (Nat.le_trans hk132 (Nat.le_refl _))) hZ132 (own_EW hw) (by rw [e145]; exact f143) (fun h => by rw [hret] at h; cases h) (lastN X145 hx (t := .boolean) (z' := (1 : Int32)) hret (by simp) (by decide) (hb Y e56_73)) ?_ (by decide) (by decide)
       rw [e145]
       exact ⟨rfl, N145, K149⟩
   ·exact absurd (show 1 ≤ n ∧ EQS ps 0 [47] 0 1 from ⟨hQl ▸ hQ.1.1, hQ.1.2⟩) hE130
theorem e2_0 : Dc kC52 0 (.aload_n 0) 1 := by decide +kernel
theorem e2_1 : Dc kC52 1 (.invokespecial 1) 3 := by decide +kernel
theorem wd36 (hw : HW a0 Z) : BW a0 Z (.methodLink "java/lang/Record" (1 : Nat) ⟨"java/lang/Object", "<init>", "()V"⟩) := wat hw 36 rfl
theorem e2_4 : Dc kC52 4 .return_ 1 := by decide +kernel
def Q_recinit (Z : State) (zC : Int32) (vF : Value) (a0_ : Addr) (h0 : Heap) (v : Option Value) (h : Heap) (L : List Loc) : Prop := v = none ∧ Fr Z.heap.size L ∧ h = h0
theorem pn10 : plainName "java/lang/Record" = true := by first | (simp [plainName, overriddenIn]; done) | decide +kernel
theorem rm_recinit (l : Launch) (Z : State) (a0 : Array Value) (hw : HW a0 Z) (zC : Int32) (vF : Value) (G : GB l a0 Z zC vF) (a0_ : Addr) (h0 : Heap) (O0 : Old Z Z.heap.size h0)  :
    Con l Z (⟨"java/lang/Record", "<init>", "()V"⟩ : MethodName) kC52 1 none ({ frames := 1, cells := 0, slots := 0, locals := 12 } : Room) #[(.ref a0_)] h0 (Q_recinit Z zC vF a0_ h0) := by
 refine Con.intro (plainFor_of_name pn10) ?_
 intro p e s m below meth c T0 X0 hx Y hml hown0 hnm hret hlk hZ0 e0
 have N0 := Fr.nil Z.heap.size
 refine castGo (g' := mkF m 0 #[vr a0_] []) (by first | rfl | (simp [entryFrame, mkF, argsToLocals, Value.category]; done)) ?_
 show Go _ _ _ _ (T0.setTop (mkF m 0 #[vr a0_] []))
 refine aL X0 hx (hb Y e2_0) (q := 1) rfl rfl rfl ?_
 refine g_init0 X0 hx hZ0 hown0 (wd36 hw) (wd37 hw) (wd38 hw) (by rw [hml]; rfl) (by decide) (W := 0) (Nat.le_of_eq rfl) (by decide) e0 (hb Y e2_1) (q := 4) rfl ?_
 intro T21 X21 e21
 refine endP X21 hlk (fun _ => rfl) (lastV X21 hx hret (hb Y e2_4)) ?_ (by decide) (by decide)
 rw [e21]
 exact ⟨rfl, N0, rfl⟩
theorem e54_0 : Dc kC19 0 (.aload_n 0) 1 := by decide +kernel
theorem e54_1 : Dc kC19 1 (.invokespecial 1) 3 := by decide +kernel
theorem wd35 (hw : HW a0 Z) : BW a0 Z (.code ⟨"java/lang/Record", "<init>", "()V"⟩ kC52 (1 : Nat) (Option.none : Option Jvm.ClassFile.FieldType)) := wat hw 35 rfl
theorem wd34 (hw : HW a0 Z) : BW a0 Z (.initialized "java/lang/Record") := wat hw 34 rfl
theorem pd33 : parseMethodDescriptor "()V" = some ⟨[], none⟩ := by decide +kernel
theorem wd31 (hw : HW a0 Z) : BW a0 Z (.methodLink sT2 (1 : Nat) ⟨"java/lang/Record", "<init>", "()V"⟩) := wat hw 31 rfl
theorem wd32 (hw : HW a0 Z) : BW a0 Z (.instanceMethod ⟨"java/lang/Record", "<init>", "()V"⟩) := wat hw 32 rfl
theorem e54_4 : Dc kC19 4 (.aload_n 1) 1 := by decide +kernel
theorem e54_5 : Dc kC19 5 (.invokestatic 7) 3 := by decide +kernel
theorem wd41 (hw : HW a0 Z) : BW a0 Z (.code ⟨sT2, "isPattern", sT6⟩ kC12 (2 : Nat) (Option.some Jvm.ClassFile.FieldType.boolean)) := wat hw 41 rfl
theorem wd27 (hw : HW a0 Z) : BW a0 Z (.initialized sT2) := wat hw 27 rfl
theorem wd39 (hw : HW a0 Z) : BW a0 Z (.methodLink sT2 (7 : Nat) ⟨sT2, "isPattern", sT6⟩) := wat hw 39 rfl
theorem wd40 (hw : HW a0 Z) : BW a0 Z (.static ⟨sT2, "isPattern", sT6⟩) := wat hw 40 rfl
theorem e54_8 : Dc kC19 8 (.ifCond .ne 17) 3 := by decide +kernel
theorem e54_25 : Dc kC19 25 (.aload_n 0) 1 := by decide +kernel
theorem e54_26 : Dc kC19 26 (.aload_n 1) 1 := by decide +kernel
theorem e54_27 : Dc kC19 27 (.putfield 22) 3 := by decide +kernel
theorem wd72 (hw : HW a0 Z) : BW a0 Z (.fieldLink sT2 (22 : Nat) sT2 "spelling" "Ljava/lang/String;") := wat hw 72 rfl
theorem wd73 (hw : HW a0 Z) : BW a0 Z (.laysFinal sT2 sT2 "spelling" "Ljava/lang/String;") := wat hw 73 rfl
theorem wd26 (hw : HW a0 Z) : BW a0 Z (.instantiable sT2 (1 : Nat)) := wat hw 26 rfl
theorem e54_30 : Dc kC19 30 .return_ 1 := by decide +kernel
def Q_epinit (Z : State) (zC : Int32) (vF : Value) (aP a1 t : Addr) (kb : ClassId) (ps : List Int32) (n : Nat) (h0 : Heap) (v : Option Value) (h : Heap) (L : List Loc) : Prop := v = none ∧ Fr Z.heap.size L ∧ Keep h0 h [aP] ∧ Exa Z h aP sT2 ∧ Fld Z h aP sT2 "spelling" "Ljava/lang/String;" (.ref a1)
theorem rm_epinit (l : Launch) (Z : State) (a0 : Array Value) (hw : HW a0 Z) (zC : Int32) (vF : Value) (G : GB l a0 Z zC vF) (aP a1 t : Addr) (kb : ClassId) (ps : List Int32) (n : Nat) (h0 : Heap) (O0 : Old Z Z.heap.size h0) (Ee : Exa Z h0 aP sT2) (Es : Fld Z h0 aP sT2 "spelling" "Ljava/lang/String;" .null) (Eg : Z.heap.size ≤ aP) (Pe : Exa Z h0 a1 sT0) (Pc : Fld Z h0 a1 sT0 "coder" "B" (iv 0)) (Pv : Fld Z h0 a1 sT0 "value" "[B" (.ref t)) (PB : Arv Z h0 t kb .byte (Int32.ofNat n) (ps.map lo8V) (.int 0)) (Hn : (ps.length = n)) (Hm : (n ≤ 6)) (Hr : (ALL ps)) (PO : (OKP ps n)) :
    ConS l Z EL (⟨sT2, "<init>", "(Ljava/lang/String;)V"⟩ : MethodName) kC19 2 none ({ frames := 6, cells := 10, slots := 50, locals := 106 } : Room) #[(.ref aP), (.ref a1)] h0 [aP] (Q_epinit Z zC vF aP a1 t kb ps n h0) := by
 refine ConS.intro (plainFor_of_name pn9) ?_
 intro p e s m below meth c T0 v0 X0 hx Y hml hown0 hnm hret hlk hZ0 e0 hS0 C0 hsl0
 have Ef := hsl0 aP (by simp)
 have N0 := Fr.nil Z.heap.size
 refine castGo (g' := mkF m 0 #[vr aP, vr a1] []) (by first | rfl | (simp [entryFrame, mkF, argsToLocals, Value.category]; done)) ?_
 show Go _ _ _ _ (T0.setTop (mkF m 0 #[vr aP, vr a1] []))
 refine aL X0 hx (hb Y e54_0) (q := 1) rfl rfl rfl ?_
 refine g_sp X0 hx hZ0 hown0 (wd31 hw) (wd32 hw) (wd35 hw) rfl (by decide) e0 (Con.back (W := 0) (rm_recinit l Z a0 hw zC vF G aP h0 O0 ) hZ0 (wd35 hw) (wd34 hw) (by decide) (by decide)) (by rw [hml]; rfl) (lenOf pd33 rfl) rfl (Nat.le_of_eq rfl) (hb Y e54_1) (q := 4) rfl (by decide) (by decide) ?_
 intro v21 T21 L21 X21 Q21
 obtain ⟨rfl, Nq21, e21⟩ := Q21
 have N21 := Fr.app N0 Nq21
 show Go _ _ _ _ (T21.setTop (mkF m 4 _ []))
 refine aL X21 hx (hb Y e54_4) (q := 5) rfl rfl rfl ?_
 refine g_stS X21 hx hZ0 hown0 hS0 (Nat.zero_le _) (wd39 hw) (wd40 hw) (wd27 hw) (wd41 hw) (by decide) e21 (ConS.back (W := 0) (rm_isp l Z a0 hw zC vF G a1 t kb ps n h0 O0 Pe Pc Pv PB Hn Hm Hr PO) hZ0 (wd41 hw) (wd27 hw) (by decide) (by decide) (own_EW hw) C0.1 sf0 all0) (by rw [hml]; rfl) (lenOf pd31 rfl) rfl (Nat.le_of_eq rfl) (hb Y e54_5) (q := 8) rfl (by decide) (by decide) ?_
 rintro v22 T22 L22 ⟨X22, hS22, hZ22, hown22, R22⟩ Q22
 obtain ⟨rfl, Nq22, K22q⟩ := Q22
 have N22 := Fr.app N21 Nq22
 show Go _ _ _ _ (T22.setTop (mkF m 8 _ [(iv 1)]))
 refine ifY X22 hx (hb Y e54_8) (q := 25) (by decide) (by decide) (by decide) ?_
 refine aL X22 hx (hb Y e54_25) (q := 26) rfl rfl rfl ?_
 refine aL X22 hx (hb Y e54_26) (q := 27) rfl rfl rfl ?_
 have f23 := Es.keep K22q nin0
 have f24 := Ee.keep K22q
 have f26 := C0.trans R22
 have f27 := R22.safe (Nat.lt_of_lt_of_le Ee.lt (Nat.le_refl _)) Ef
 refine g_putF X22 hx hZ22 hown22 (host := "") (Or.inl (wd72 hw)) Via.refl f23 f24 (Or.inr ⟨(wd73 hw), rfl, hnm⟩) (wd26 hw) (ty := (.object sT0)) (by decide) rfl rfl rfl (hb Y e54_27) (q := 30) rfl ?_
 intro T25 h25 X25 e25 W25
 have N25 := Fr.snoc X25 N22 Eg
 have Fw25 : Fld Z h25 aP sT2 "spelling" "Ljava/lang/String;" (.ref a1) := f23.same W25
 have K28 : Keep h0 T22.heap [aP] := (Keep.refl h0 [aP]).trans K22q all0
 have K29 : Keep h0 h25 [aP] := K28.wr W25 (Or.inl (by simp))
 have f30 := f24.wr W25
 have le31 := (Nat.le_of_eq (Wr.size W25).symm)
 have f32 := f26.trans (CHr.wr W25 f27 f26.1)
 refine endC X25 hlk hS22 (by rw [e25]; exact (Nat.le_trans (Nat.le_refl _) le31)) hZ22 (own_EW hw) (by rw [e25]; exact f32) (fun _ => rfl) (lastV X25 hx hret (hb Y e54_30)) ?_ (by decide) (by decide)
 rw [e25]
 exact ⟨rfl, N25, K29, f30, Fw25⟩
theorem e55_0 : Dc kC22 0 (.aload_n 1) 1 := by decide +kernel
theorem e55_1 : Dc kC22 1 (.invokestatic 37) 3 := by decide +kernel
theorem wd81 (hw : HW a0 Z) : BW a0 Z (.code ⟨sT2, "normalise", "(Ljava/lang/String;)Ljava/lang/String;"⟩ kC25 (7 : Nat) (Option.some (Jvm.ClassFile.FieldType.object sT0))) := wat hw 81 rfl
theorem pd34 : parseMethodDescriptor "(Ljava/lang/String;)Ljava/lang/String;" = some ⟨[(.object "java/lang/String")], some (.object "java/lang/String")⟩ := by decide +kernel
theorem wd79 (hw : HW a0 Z) : BW a0 Z (.methodLink sT2 (37 : Nat) ⟨sT2, "normalise", "(Ljava/lang/String;)Ljava/lang/String;"⟩) := wat hw 79 rfl
theorem wd80 (hw : HW a0 Z) : BW a0 Z (.static ⟨sT2, "normalise", "(Ljava/lang/String;)Ljava/lang/String;"⟩) := wat hw 80 rfl
theorem e55_4 : Dc kC22 4 (.astore_n 2) 1 := by decide +kernel
theorem e55_5 : Dc kC22 5 (.ldc 40) 2 := by decide +kernel
theorem e55_7 : Dc kC22 7 (.aload_n 0) 1 := by decide +kernel
theorem e55_8 : Dc kC22 8 (.getfield 22) 3 := by decide +kernel
theorem e55_11 : Dc kC22 11 (.invokevirtual 42) 3 := by decide +kernel
theorem e55_14 : Dc kC22 14 (.ifCond .eq 8) 3 := by decide +kernel
theorem e55_17 : Dc kC22 17 (.iconst 1) 1 := by decide +kernel
theorem e55_18 : Dc kC22 18 (.istore_n 3) 1 := by decide +kernel
theorem e55_19 : Dc kC22 19 (.goto 110) 3 := by decide +kernel
theorem e55_129 : Dc kC22 129 (.iload_n 3) 1 := by decide +kernel
theorem e55_130 : Dc kC22 130 .ireturn 1 := by decide +kernel
theorem e55_22 : Dc kC22 22 (.aload_n 0) 1 := by decide +kernel
theorem e55_23 : Dc kC22 23 (.getfield 22) 3 := by decide +kernel
theorem e55_26 : Dc kC22 26 (.ldc 48) 2 := by decide +kernel
theorem e55_28 : Dc kC22 28 (.invokevirtual 50) 3 := by decide +kernel
theorem e55_31 : Dc kC22 31 (.ifCond .eq 89) 3 := by decide +kernel
theorem e55_34 : Dc kC22 34 (.aload_n 0) 1 := by decide +kernel
theorem e55_35 : Dc kC22 35 (.getfield 22) 3 := by decide +kernel
theorem e55_38 : Dc kC22 38 (.invokevirtual 53) 3 := by decide +kernel
theorem e55_41 : Dc kC22 41 (.ldc 48) 2 := by decide +kernel
theorem e55_43 : Dc kC22 43 (.invokevirtual 53) 3 := by decide +kernel
theorem e55_46 : Dc kC22 46 .isub 1 := by decide +kernel
theorem e55_47 : Dc kC22 47 (.istore 4) 2 := by decide +kernel
theorem e55_49 : Dc kC22 49 (.aload_n 2) 1 := by decide +kernel
theorem e55_50 : Dc kC22 50 (.iconst 0) 1 := by decide +kernel
theorem e55_51 : Dc kC22 51 (.aload_n 0) 1 := by decide +kernel
theorem e55_52 : Dc kC22 52 (.getfield 22) 3 := by decide +kernel
theorem e55_55 : Dc kC22 55 (.iconst 0) 1 := by decide +kernel
theorem e55_56 : Dc kC22 56 (.iload 4) 2 := by decide +kernel
theorem e55_58 : Dc kC22 58 (.iconst 1) 1 := by decide +kernel
theorem e55_59 : Dc kC22 59 .iadd 1 := by decide +kernel
theorem e55_60 : Dc kC22 60 (.invokevirtual 57) 3 := by decide +kernel
theorem wd217 (hw : HW a0 Z) : BW a0 Z (.code ⟨sT0, "regionMatches", "(ILjava/lang/String;II)Z"⟩ kC32 (8 : Nat) (Option.some Jvm.ClassFile.FieldType.boolean)) := wat hw 217 rfl
theorem pd35 : parseMethodDescriptor "(ILjava/lang/String;II)Z" = some ⟨[.int, (.object "java/lang/String"), .int, .int], some .boolean⟩ := by decide +kernel
theorem wd216 (hw : HW a0 Z) : BW a0 Z (.selects sT0 ⟨sT0, "regionMatches", "(ILjava/lang/String;II)Z"⟩ ⟨sT0, "regionMatches", "(ILjava/lang/String;II)Z"⟩) := wat hw 216 rfl
theorem wd213 (hw : HW a0 Z) : BW a0 Z (.methodLink sT2 (57 : Nat) ⟨sT0, "regionMatches", "(ILjava/lang/String;II)Z"⟩) := wat hw 213 rfl
theorem wd214 (hw : HW a0 Z) : BW a0 Z (.declares ⟨sT0, "regionMatches", "(ILjava/lang/String;II)Z"⟩) := wat hw 214 rfl
theorem wd215 (hw : HW a0 Z) : BW a0 Z (.instanceMethod ⟨sT0, "regionMatches", "(ILjava/lang/String;II)Z"⟩) := wat hw 215 rfl
theorem e55_63 : Dc kC22 63 (.istore 5) 2 := by decide +kernel
theorem e55_65 : Dc kC22 65 (.iload 4) 2 := by decide +kernel
theorem e55_67 : Dc kC22 67 (.ifCond .le 31) 3 := by decide +kernel
theorem e55_98 : Dc kC22 98 (.iconst 0) 1 := by decide +kernel
theorem e55_99 : Dc kC22 99 (.istore 6) 2 := by decide +kernel
theorem e55_101 : Dc kC22 101 (.iload 5) 2 := by decide +kernel
theorem e55_103 : Dc kC22 103 (.ifCond .ne 8) 3 := by decide +kernel
theorem e55_111 : Dc kC22 111 (.iconst 1) 1 := by decide +kernel
theorem e55_112 : Dc kC22 112 (.goto 4) 3 := by decide +kernel
theorem e55_116 : Dc kC22 116 (.istore_n 3) 1 := by decide +kernel
theorem e55_117 : Dc kC22 117 (.goto 12) 3 := by decide +kernel
theorem e55_70 : Dc kC22 70 (.aload_n 2) 1 := by decide +kernel
theorem e55_71 : Dc kC22 71 (.invokevirtual 53) 3 := by decide +kernel
theorem e55_74 : Dc kC22 74 (.iload 4) 2 := by decide +kernel
theorem e55_76 : Dc kC22 76 (.if_icmp .ne 22) 3 := by decide +kernel
theorem e55_79 : Dc kC22 79 (.aload_n 2) 1 := by decide +kernel
theorem e55_80 : Dc kC22 80 (.iconst 0) 1 := by decide +kernel
theorem e55_81 : Dc kC22 81 (.aload_n 0) 1 := by decide +kernel
theorem e55_82 : Dc kC22 82 (.getfield 22) 3 := by decide +kernel
theorem e55_85 : Dc kC22 85 (.iconst 0) 1 := by decide +kernel
theorem e55_86 : Dc kC22 86 (.iload 4) 2 := by decide +kernel
theorem e55_88 : Dc kC22 88 (.invokevirtual 57) 3 := by decide +kernel
theorem e55_91 : Dc kC22 91 (.ifCond .eq 7) 3 := by decide +kernel
theorem e55_94 : Dc kC22 94 (.iconst 1) 1 := by decide +kernel
theorem e55_95 : Dc kC22 95 (.goto 4) 3 := by decide +kernel
theorem e55_106 : Dc kC22 106 (.iload 6) 2 := by decide +kernel
theorem e55_108 : Dc kC22 108 (.ifCond .eq 7) 3 := by decide +kernel
theorem e55_115 : Dc kC22 115 (.iconst 0) 1 := by decide +kernel
theorem e55_120 : Dc kC22 120 (.aload_n 2) 1 := by decide +kernel
theorem e55_121 : Dc kC22 121 (.aload_n 0) 1 := by decide +kernel
theorem e55_122 : Dc kC22 122 (.getfield 22) 3 := by decide +kernel
theorem e55_125 : Dc kC22 125 (.invokevirtual 42) 3 := by decide +kernel
theorem e55_128 : Dc kC22 128 (.istore_n 3) 1 := by decide +kernel
def Q_mat (Z : State) (zC : Int32) (vF : Value) (aP a1 t : Addr) (kb : ClassId) (ps : List Int32) (n : Nat) (a3 t3 : Addr) (k3 : ClassId) (cs : List Int32) (n3 : Nat) (h0 : Heap) (v : Option Value) (h : Heap) (L : List Loc) : Prop := ∃ (bb : Int32), ∃ (ls : List Int32), ∃ (nl : Nat), v = some (.int bb) ∧ Fr Z.heap.size L ∧ Keep h0 h [] ∧ (BIT bb (MATCH ps n ls nl)) ∧ (NRM cs ls) ∧ (ls.length = nl) ∧ (nl ≤ 6)
theorem rm_mat (l : Launch) (Z : State) (a0 : Array Value) (hw : HW a0 Z) (zC : Int32) (vF : Value) (G : GB l a0 Z zC vF) (aP a1 t : Addr) (kb : ClassId) (ps : List Int32) (n : Nat) (a3 t3 : Addr) (k3 : ClassId) (cs : List Int32) (n3 : Nat) (h0 : Heap) (O0 : Old Z Z.heap.size h0) (Ee : Exa Z h0 aP sT2) (Es : Fld Z h0 aP sT2 "spelling" "Ljava/lang/String;" (.ref a1)) (Pep : Exa Z h0 a1 sT0) (Pcp : Fld Z h0 a1 sT0 "coder" "B" (iv 0)) (Pvp : Fld Z h0 a1 sT0 "value" "[B" (.ref t)) (PBp : Arv Z h0 t kb .byte (Int32.ofNat n) (ps.map lo8V) (.int 0)) (Hnp : (ps.length = n)) (Hmp : (n ≤ 6)) (Hrp : (ALL ps)) (Pec : Exa Z h0 a3 sT0) (Pcc : Fld Z h0 a3 sT0 "coder" "B" (iv 0)) (Pvc : Fld Z h0 a3 sT0 "value" "[B" (.ref t3)) (PBc : Arv Z h0 t3 k3 .byte (Int32.ofNat n3) (cs.map lo8V) (.int 0)) (Hnc : (cs.length = n3)) (Hmc : (n3 ≤ 6)) (Hrc : (ALL cs)) :
    ConS l Z EL (⟨sT2, "matches", "(Ljava/lang/String;)Z"⟩ : MethodName) kC22 7 (some .boolean) ({ frames := 7, cells := 14, slots := 74, locals := 122 } : Room) #[(.ref aP), (.ref a3)] h0 [] (Q_mat Z zC vF aP a1 t kb ps n a3 t3 k3 cs n3 h0) := by
 refine ConS.intro (plainFor_of_name pn9) ?_
 intro p e s m below meth c T0 v0 X0 hx Y hml hown0 hnm hret hlk hZ0 e0 hS0 C0 hsl0
 have N0 := Fr.nil Z.heap.size
 refine castGo (g' := mkF m 0 #[vr aP, vr a3, uS, uS, uS, uS, uS] []) (by first | rfl | (simp [entryFrame, mkF, argsToLocals, Value.category]; done)) ?_
 show Go _ _ _ _ (T0.setTop (mkF m 0 #[vr aP, vr a3, uS, uS, uS, uS, uS] []))
 refine aL X0 hx (hb Y e55_0) (q := 1) rfl rfl rfl ?_
 refine g_stS X0 hx hZ0 hown0 hS0 (Nat.zero_le _) (wd79 hw) (wd80 hw) (wd27 hw) (wd81 hw) (by decide) e0 (ConS.back (W := 0) (rm_nrm l Z a0 hw zC vF G a3 t3 k3 cs n3 h0 O0 Pec Pcc Pvc PBc Hnc Hmc Hrc) hZ0 (wd81 hw) (wd27 hw) (by decide) (by decide) (own_EW hw) C0.1 sf0 all0) (by rw [hml]; rfl) (lenOf pd34 rfl) rfl (Nat.le_of_eq rfl) (hb Y e55_1) (q := 4) rfl (by decide) (by decide) ?_
 rintro v21 T21 L21 ⟨X21, hS21, hZ21, hown21, R21⟩ Q21
 obtain ⟨r_21, ct_21, kc_21, ls_21, nl_21, rfl, Nq21, K21q, q21_0, q21_1, q21_2, q21_3, q21_4, q21_5, q21_6, q21_7⟩ := Q21
 have N21 := Fr.app N0 Nq21
 show Go _ _ _ _ (T21.setTop (mkF m 4 _ [(.ref r_21)]))
 refine sA X21 hx (hb Y e55_4) (q := 5) rfl rfl (Ls' := #[vr aP, vr a3, vr r_21, uS, uS, uS, uS]) rfl ?_
 have hnl : nl_21 ≤ 6 := q21_5
 have hll : ls_21.length = nl_21 := q21_4
 have f23 := C0.trans R21
 refine g_ldc X21 hx hZ21 hown21 (wd66 hw) (own_wS hw) hS21 (Nat.le_trans (Nat.le_refl _) (Nat.le_refl _)) (own_EW hw) (by simp [EL]) f23.1 (vs := [(iv 42)]) (z := 1) ⟨by decide, by decide⟩ (by decide) (by decide) (n := 4) (by decide) (by decide) (by decide) (by decide) rfl (hb Y e55_5) (q := 7) rfl ?_
 intro b22 T22 h22 kk22 d22 k22 X22 e22 E22 hS22 hk22 hZ22 hown22 A22 Fc22 Fv22 V22 lta22 ltb22 R22 sn22
 refine aL X22 hx (hb Y e55_7) (q := 8) rfl rfl rfl ?_
 have f24 := Es.keep K21q nin0
 have f25 := f24.ext E22
 refine g_getF X22 hx hZ22 hown22 (host := "") (Or.inl (wd72 hw)) Via.refl f25 e22 (hb Y e55_8) (q := 11) rfl ?_
 intro T26 X26 e26
 have f36 := Pep.keep K21q
 have f37 := f36.ext E22
 have f38 := Pcp.keep K21q nin0
 have f39 := f38.ext E22
 have f40 := Pvp.keep K21q nin0
 have f41 := f40.ext E22
 have f42 := PBp.keep K21q nin0
 have f43 := f42.ext E22
 have f44 := O0.keep K21q all0
 have f45 := f44.ext E22
 refine g_vi X26 hx hZ22 hown22 (wd67 hw) (wd68 hw) (notFace_of_selects (args := #[]) (mvT hZ22 (wd70 hw))) (wd70 hw) (wd69 hw) (by decide) A22 e26 (Con.back (W := 0) (rm_seqg l Z a0 hw zC vF G b22 d22 k22 ([(42 : Int32)] : List Int32) 1 a1 t kb ps n h22 f45 A22 Fc22 Fv22 V22 rfl (show 1 ≤ 6 from by omega) (alS (by decide) al0) f37 f39 f41 f43 Hnp Hmp Hrp) hZ22 (wd71 hw) (wd9 hw) (by decide) (by decide)) (by rw [hml]; rfl) (lenOf pd32 rfl) rfl (Nat.le_of_eq rfl) (hb Y e55_11) (q := 14) rfl (by decide) (by decide) ?_
 intro v35 T35 L35 X35 Q35
 obtain ⟨bb_35, rfl, Nq35, e35, q35_0⟩ := Q35
 have N35 := Fr.app N21 Nq35
 show Go _ _ _ _ (T35.setTop (mkF m 14 _ [(.int bb_35)]))
 have f46 := f23.trans R22
 rcases q35_0 with ⟨hE47, rfl⟩ | ⟨hE47, rfl⟩
 ·show Go _ _ _ _ (T35.setTop (mkF m 14 #[vr aP, vr a3, vr r_21, uS, uS, uS, uS] [(iv 1)]))
  refine ifN X35 hx (hb Y e55_14) (q := 17) rfl (by decide) ?_
  refine cI X35 hx (hb Y e55_17) (q := 18) rfl (z := 1) rfl ?_
  refine sI X35 hx (hb Y e55_18) (q := 19) rfl (Ls' := #[vr aP, vr a3, vr r_21, vi 1, uS, uS, uS]) rfl ?_
  refine g_goto X35 hx (hb Y e55_19) (q := 129) (by decide) (by decide) ?_
  refine iL X35 hx (hb Y e55_129) (q := 130) rfl rfl ?_
  have K48 : Keep h0 T21.heap [] := (Keep.refl h0 []).trans K21q all0
  have K49 : Keep h0 h22 [] := K48.ext E22
  refine endC X35 hlk hS22 (by rw [e35]; exact (Nat.le_trans hk22 (Nat.le_refl _))) hZ22 (own_EW hw) (by rw [e35]; exact f46) (fun h => by rw [hret] at h; cases h) (lastN X35 hx (t := .boolean) (z' := (1 : Int32)) hret (by simp) (by decide) (hb Y e55_130)) ?_ (by decide) (by decide)
  rw [e35]
  exact ⟨(1 : Int32), ls_21, nl_21, rfl, N35, K49, (Or.inl ⟨Or.inl hE47, rfl⟩), q21_7, q21_4, q21_5⟩
 ·show Go _ _ _ _ (T35.setTop (mkF m 14 #[vr aP, vr a3, vr r_21, uS, uS, uS, uS] [(iv 0)]))
  refine ifY X35 hx (hb Y e55_14) (q := 22) (by decide) (by decide) (by decide) ?_
  refine aL X35 hx (hb Y e55_22) (q := 23) rfl rfl rfl ?_
  refine g_getF X35 hx hZ22 hown22 (host := "") (Or.inl (wd72 hw)) Via.refl f25 e35 (hb Y e55_23) (q := 26) rfl ?_
  intro T50 X50 e50
  refine g_ldc X50 hx hZ22 hown22 (wd42 hw) (own_wS hw) hS22 (Nat.le_trans hk22 (Nat.le_refl _)) (own_EW hw) (by simp [EL]) f46.1 (vs := [(iv 47), (iv 42)]) (z := 2) ⟨by decide, by decide⟩ (by decide) (by decide) (n := 8) (by decide) (by decide) (by decide) (by decide) e50 (hb Y e55_26) (q := 28) rfl ?_
  intro b51 T51 h51 kk51 d51 k51 X51 e51 E51 hS51 hk51 hZ51 hown51 A51 Fc51 Fv51 V51 lta51 ltb51 R51 sn51
  have f57 := f37.ext E51
  have f58 := f39.ext E51
  have f59 := f41.ext E51
  have f60 := f43.ext E51
  have f61 := f45.ext E51
  refine g_vi X51 hx hZ51 hown51 (wd43 hw) (wd44 hw) (notFace_of_selects (args := #[]) (mvT hZ51 (wd46 hw))) (wd46 hw) (wd45 hw) (by decide) f57 e51 (Con.back (W := 0) (rm_ew l Z a0 hw zC vF G a1 t kb ps n b51 d51 k51 ([(47 : Int32), (42 : Int32)] : List Int32) 2 h51 f61 f57 f58 f59 f60 Hnp Hmp Hrp A51 Fc51 Fv51 V51 rfl (show 2 ≤ 6 from by omega) (alS (by decide) (alS (by decide) al0))) hZ51 (wd47 hw) (wd9 hw) (by decide) (by decide)) (by rw [hml]; rfl) (lenOf pd31 rfl) rfl (Nat.le_of_eq rfl) (hb Y e55_28) (q := 31) rfl (by decide) (by decide) ?_
  intro v56 T56 L56 X56 Q56
  obtain ⟨bb_56, rfl, Nq56, e56, q56_0⟩ := Q56
  have N56 := Fr.app N35 Nq56
  show Go _ _ _ _ (T56.setTop (mkF m 31 _ [(.int bb_56)]))
  have f62 := f46.trans R51
  rcases q56_0 with ⟨hE63, rfl⟩ | ⟨hE63, rfl⟩
  ·have h2n : 2 ≤ n := hE63.1
   show Go _ _ _ _ (T56.setTop (mkF m 31 #[vr aP, vr a3, vr r_21, uS, uS, uS, uS] [(iv 1)]))
   refine ifN X56 hx (hb Y e55_31) (q := 34) rfl (by decide) ?_
   refine aL X56 hx (hb Y e55_34) (q := 35) rfl rfl rfl ?_
   have f64 := f25.ext E51
   refine g_getF X56 hx hZ51 hown51 (host := "") (Or.inl (wd72 hw)) Via.refl f64 e56 (hb Y e55_35) (q := 38) rfl ?_
   intro T65 X65 e65
   refine g_vi X65 hx hZ51 hown51 (wd161 hw) (wd49 hw) (notFace_of_selects (args := #[]) (mvT hZ51 (wd51 hw))) (wd51 hw) (wd50 hw) (by decide) f57 e65 (Con.back (W := 0) (rm_slen l Z a0 hw zC vF G a1 t kb (ps.map lo8V) (Int32.ofNat n) h51 f61 f57 f58 f59 f60) hZ51 (wd52 hw) (wd9 hw) (by decide) (by decide)) (by rw [hml]; rfl) (lenOf pd5 rfl) rfl (Nat.le_of_eq rfl) (hb Y e55_38) (q := 41) rfl (by decide) (by decide) ?_
   intro v66 T66 L66 X66 Q66
   obtain ⟨rfl, Nq66, e66⟩ := Q66
   have N66 := Fr.app N56 Nq66
   show Go _ _ _ _ (T66.setTop (mkF m 41 _ [(.int (Int32.ofNat n))]))
   refine g_ldc X66 hx hZ51 hown51 (wd42 hw) (own_wS hw) hS51 (Nat.le_trans hk51 (Nat.le_refl _)) (own_EW hw) (by simp [EL]) f62.1 (vs := [(iv 47), (iv 42)]) (z := 2) ⟨by decide, by decide⟩ (by decide) (by decide) (n := 8) (by decide) (by decide) (by decide) (by decide) e66 (hb Y e55_41) (q := 43) rfl ?_
   intro b67 T67 h67 kk67 d67 k67 X67 e67 E67 hS67 hk67 hZ67 hown67 A67 Fc67 Fv67 V67 lta67 ltb67 R67 sn67
   have f69 := f61.ext E67
   refine g_vi X67 hx hZ67 hown67 (wd161 hw) (wd49 hw) (notFace_of_selects (args := #[]) (mvT hZ67 (wd51 hw))) (wd51 hw) (wd50 hw) (by decide) A67 e67 (Con.back (W := 1) (rm_slen l Z a0 hw zC vF G b67 d67 k67 [(iv 47), (iv 42)] (2 : Int32) h67 f69 A67 Fc67 Fv67 V67) hZ67 (wd52 hw) (wd9 hw) (by decide) (by decide)) (by rw [hml]; rfl) (lenOf pd5 rfl) rfl (Nat.le_of_eq rfl) (hb Y e55_43) (q := 46) rfl (by decide) (by decide) ?_
   intro v68 T68 L68 X68 Q68
   obtain ⟨rfl, Nq68, e68⟩ := Q68
   have N68 := Fr.app N66 Nq68
   show Go _ _ _ _ (T68.setTop (mkF m 46 _ [(iv 2), (.int (Int32.ofNat n))]))
   refine g_isub X68 hx (hb Y e55_46) (q := 47) rfl (z := (Int32.ofNat (n - 2))) (on_sub (show 2 ≤ n from by omega) (show n < 2147483648 from by omega)) ?_
   refine sIw X68 hx (hb Y e55_47) (q := 49) rfl (Ls' := #[vr aP, vr a3, vr r_21, uS, vi (Int32.ofNat (n - 2)), uS, uS]) rfl ?_
   refine aL X68 hx (hb Y e55_49) (q := 50) rfl rfl rfl ?_
   refine cI X68 hx (hb Y e55_50) (q := 51) rfl (z := 0) rfl ?_
   refine aL X68 hx (hb Y e55_51) (q := 52) rfl rfl rfl ?_
   have f70 := f64.ext E67
   refine g_getF X68 hx hZ67 hown67 (host := "") (Or.inl (wd72 hw)) Via.refl f70 e68 (hb Y e55_52) (q := 55) rfl ?_
   intro T71 X71 e71
   refine cI X71 hx (hb Y e55_55) (q := 56) rfl (z := 0) rfl ?_
   refine iLw X71 hx (hb Y e55_56) (q := 58) rfl rfl ?_
   refine cI X71 hx (hb Y e55_58) (q := 59) rfl (z := 1) rfl ?_
   refine g_iadd X71 hx (hb Y e55_59) (q := 60) rfl (z := (Int32.ofNat (n - 2 + 1))) (on_add (n - 2) 1) ?_
   have f89 := q21_0.ext E22
   have f90 := f89.ext E51
   have f91 := f90.ext E67
   have f92 := q21_1.ext E22
   have f93 := f92.ext E51
   have f94 := f93.ext E67
   have f95 := q21_2.ext E22
   have f96 := f95.ext E51
   have f97 := f96.ext E67
   have f98 := q21_3.ext E22
   have f99 := f98.ext E51
   have f100 := f99.ext E67
   have f101 := f57.ext E67
   have f102 := f58.ext E67
   have f103 := f59.ext E67
   have f104 := f60.ext E67
   refine g_vi X71 hx hZ67 hown67 (wd213 hw) (wd214 hw) (notFace_of_selects (args := #[]) (mvT hZ67 (wd216 hw))) (wd216 hw) (wd215 hw) (by decide) f91 e71 (Con.back (W := 0) (rm_reg l Z a0 hw zC vF G r_21 ct_21 kc_21 ls_21 nl_21 a1 t kb ps n (n - 2 + 1) h67 f69 f91 f94 f97 f100 q21_4 q21_5 q21_6 f101 f102 f103 f104 Hnp Hmp Hrp (show (n - 2 + 1) ≤ n from by omega)) hZ67 (wd217 hw) (wd9 hw) (by decide) (by decide)) (by rw [hml]; rfl) (lenOf pd35 rfl) rfl (Nat.le_of_eq rfl) (hb Y e55_60) (q := 63) rfl (by decide) (by decide) ?_
   intro v88 T88 L88 X88 Q88
   obtain ⟨bb_88, rfl, Nq88, e88, q88_0⟩ := Q88
   have N88 := Fr.app N68 Nq88
   show Go _ _ _ _ (T88.setTop (mkF m 63 _ [(.int bb_88)]))
   have f105 := f62.trans R67
   rcases q88_0 with ⟨hE106, rfl⟩ | ⟨hE106, rfl⟩
   ·show Go _ _ _ _ (T88.setTop (mkF m 63 #[vr aP, vr a3, vr r_21, uS, vi (Int32.ofNat (n - 2)), uS, uS] [(iv 1)]))
    refine sIw X88 hx (hb Y e55_63) (q := 65) rfl (Ls' := #[vr aP, vr a3, vr r_21, uS, vi (Int32.ofNat (n - 2)), vi 1, uS]) rfl ?_
    refine iLw X88 hx (hb Y e55_65) (q := 67) rfl rfl ?_
    rcases Nat.eq_zero_or_pos (n - 2) with hp | hp
    ·have hq : ¬ (0 : Int32) < Int32.ofNat (n - 2) := by rw [hp]; exact lt_irr
     show Go _ _ _ _ (T88.setTop (mkF m 67 #[vr aP, vr a3, vr r_21, uS, vi (Int32.ofNat (n - 2)), vi 1, uS] [(.int (Int32.ofNat (n - 2)))]))
     refine ifY X88 hx (hb Y e55_67) (q := 98) (by decide) (by decide) ((if0 _ _).trans (flt hq).2.2.2) ?_
     refine cI X88 hx (hb Y e55_98) (q := 99) rfl (z := 0) rfl ?_
     refine sIw X88 hx (hb Y e55_99) (q := 101) rfl (Ls' := #[vr aP, vr a3, vr r_21, uS, vi (Int32.ofNat (n - 2)), vi 1, vi 0]) rfl ?_
     refine iLw X88 hx (hb Y e55_101) (q := 103) rfl rfl ?_
     refine ifY X88 hx (hb Y e55_103) (q := 111) (by decide) (by decide) (by decide) ?_
     refine cI X88 hx (hb Y e55_111) (q := 112) rfl (z := 1) rfl ?_
     refine g_goto X88 hx (hb Y e55_112) (q := 116) (by decide) (by decide) ?_
     refine sI X88 hx (hb Y e55_116) (q := 117) rfl (Ls' := #[vr aP, vr a3, vr r_21, vi 1, vi (Int32.ofNat (n - 2)), vi 1, vi 0]) rfl ?_
     refine g_goto X88 hx (hb Y e55_117) (q := 129) (by decide) (by decide) ?_
     refine iL X88 hx (hb Y e55_129) (q := 130) rfl rfl ?_
     have K107 : Keep h0 T21.heap [] := (Keep.refl h0 []).trans K21q all0
     have K108 : Keep h0 h22 [] := K107.ext E22
     have K109 : Keep h0 h51 [] := K108.ext E51
     have K110 : Keep h0 h67 [] := K109.ext E67
     refine endC X88 hlk hS67 (by rw [e88]; exact (Nat.le_trans hk67 (Nat.le_refl _))) hZ67 (own_EW hw) (by rw [e88]; exact f105) (fun h => by rw [hret] at h; cases h) (lastN X88 hx (t := .boolean) (z' := (1 : Int32)) hret (by simp) (by decide) (hb Y e55_130)) ?_ (by decide) (by decide)
     rw [e88]
     exact ⟨(1 : Int32), ls_21, nl_21, rfl, N88, K110, (Or.inl ⟨Or.inr ⟨hE47, Or.inl ⟨hE63, Or.inl hE106⟩⟩, rfl⟩), q21_7, q21_4, q21_5⟩
    ·show Go _ _ _ _ (T88.setTop (mkF m 67 #[vr aP, vr a3, vr r_21, uS, vi (Int32.ofNat (n - 2)), vi 1, uS] [(.int (Int32.ofNat (n - 2)))]))
     refine ifN X88 hx (hb Y e55_67) (q := 70) rfl ((if0 _ _).trans (tlt (on_lt (i := 0) hp (show n - 2 < 2147483648 from by omega))).2.2.2) ?_
     refine aL X88 hx (hb Y e55_70) (q := 71) rfl rfl rfl ?_
     refine g_vi X88 hx hZ67 hown67 (wd161 hw) (wd49 hw) (notFace_of_selects (args := #[]) (mvT hZ67 (wd51 hw))) (wd51 hw) (wd50 hw) (by decide) f91 e88 (Con.back (W := 0) (rm_slen l Z a0 hw zC vF G r_21 ct_21 kc_21 (ls_21.map lo8V) (Int32.ofNat nl_21) h67 f69 f91 f94 f97 f100) hZ67 (wd52 hw) (wd9 hw) (by decide) (by decide)) (by rw [hml]; rfl) (lenOf pd5 rfl) rfl (Nat.le_of_eq rfl) (hb Y e55_71) (q := 74) rfl (by decide) (by decide) ?_
     intro v111 T111 L111 X111 Q111
     obtain ⟨rfl, Nq111, e111⟩ := Q111
     have N111 := Fr.app N88 Nq111
     show Go _ _ _ _ (T111.setTop (mkF m 74 _ [(.int (Int32.ofNat nl_21))]))
     refine iLw X111 hx (hb Y e55_74) (q := 76) rfl rfl ?_
     rcases Classical.em (nl_21 = n - 2) with hl2 | hl2
     ·have hq2 : Int32.ofNat nl_21 = Int32.ofNat (n - 2) := by rw [hl2]
      show Go _ _ _ _ (T111.setTop (mkF m 76 #[vr aP, vr a3, vr r_21, uS, vi (Int32.ofNat (n - 2)), vi 1, uS] [(.int (Int32.ofNat (n - 2))), (.int (Int32.ofNat nl_21))]))
      refine icN X111 hx (hb Y e55_76) (q := 79) rfl (teq hq2).2 ?_
      refine aL X111 hx (hb Y e55_79) (q := 80) rfl rfl rfl ?_
      refine cI X111 hx (hb Y e55_80) (q := 81) rfl (z := 0) rfl ?_
      refine aL X111 hx (hb Y e55_81) (q := 82) rfl rfl rfl ?_
      refine g_getF X111 hx hZ67 hown67 (host := "") (Or.inl (wd72 hw)) Via.refl f70 e111 (hb Y e55_82) (q := 85) rfl ?_
      intro T112 X112 e112
      refine cI X112 hx (hb Y e55_85) (q := 86) rfl (z := 0) rfl ?_
      refine iLw X112 hx (hb Y e55_86) (q := 88) rfl rfl ?_
      refine g_vi X112 hx hZ67 hown67 (wd213 hw) (wd214 hw) (notFace_of_selects (args := #[]) (mvT hZ67 (wd216 hw))) (wd216 hw) (wd215 hw) (by decide) f91 e112 (Con.back (W := 0) (rm_reg l Z a0 hw zC vF G r_21 ct_21 kc_21 ls_21 nl_21 a1 t kb ps n (n - 2) h67 f69 f91 f94 f97 f100 q21_4 q21_5 q21_6 f101 f102 f103 f104 Hnp Hmp Hrp (show (n - 2) ≤ n from by omega)) hZ67 (wd217 hw) (wd9 hw) (by decide) (by decide)) (by rw [hml]; rfl) (lenOf pd35 rfl) rfl (Nat.le_of_eq rfl) (hb Y e55_88) (q := 91) rfl (by decide) (by decide) ?_
      intro v113 T113 L113 X113 Q113
      obtain ⟨bb_113, rfl, Nq113, e113, q113_0⟩ := Q113
      have N113 := Fr.app N111 Nq113
      show Go _ _ _ _ (T113.setTop (mkF m 91 _ [(.int bb_113)]))
      rcases q113_0 with ⟨hE114, rfl⟩ | ⟨hE114, rfl⟩
      ·show Go _ _ _ _ (T113.setTop (mkF m 91 #[vr aP, vr a3, vr r_21, uS, vi (Int32.ofNat (n - 2)), vi 1, uS] [(iv 1)]))
       refine ifN X113 hx (hb Y e55_91) (q := 94) rfl (by decide) ?_
       refine cI X113 hx (hb Y e55_94) (q := 95) rfl (z := 1) rfl ?_
       refine g_goto X113 hx (hb Y e55_95) (q := 99) (by decide) (by decide) ?_
       refine sIw X113 hx (hb Y e55_99) (q := 101) rfl (Ls' := #[vr aP, vr a3, vr r_21, uS, vi (Int32.ofNat (n - 2)), vi 1, vi 1]) rfl ?_
       refine iLw X113 hx (hb Y e55_101) (q := 103) rfl rfl ?_
       refine ifY X113 hx (hb Y e55_103) (q := 111) (by decide) (by decide) (by decide) ?_
       refine cI X113 hx (hb Y e55_111) (q := 112) rfl (z := 1) rfl ?_
       refine g_goto X113 hx (hb Y e55_112) (q := 116) (by decide) (by decide) ?_
       refine sI X113 hx (hb Y e55_116) (q := 117) rfl (Ls' := #[vr aP, vr a3, vr r_21, vi 1, vi (Int32.ofNat (n - 2)), vi 1, vi 1]) rfl ?_
       refine g_goto X113 hx (hb Y e55_117) (q := 129) (by decide) (by decide) ?_
       refine iL X113 hx (hb Y e55_129) (q := 130) rfl rfl ?_
       have K115 : Keep h0 T21.heap [] := (Keep.refl h0 []).trans K21q all0
       have K116 : Keep h0 h22 [] := K115.ext E22
       have K117 : Keep h0 h51 [] := K116.ext E51
       have K118 : Keep h0 h67 [] := K117.ext E67
       refine endC X113 hlk hS67 (by rw [e113]; exact (Nat.le_trans hk67 (Nat.le_refl _))) hZ67 (own_EW hw) (by rw [e113]; exact f105) (fun h => by rw [hret] at h; cases h) (lastN X113 hx (t := .boolean) (z' := (1 : Int32)) hret (by simp) (by decide) (hb Y e55_130)) ?_ (by decide) (by decide)
       rw [e113]
       exact ⟨(1 : Int32), ls_21, nl_21, rfl, N113, K118, (Or.inl ⟨Or.inr ⟨hE47, Or.inl ⟨hE63, Or.inl hE106⟩⟩, rfl⟩), q21_7, q21_4, q21_5⟩
      ·show Go _ _ _ _ (T113.setTop (mkF m 91 #[vr aP, vr a3, vr r_21, uS, vi (Int32.ofNat (n - 2)), vi 1, uS] [(iv 0)]))
       refine ifY X113 hx (hb Y e55_91) (q := 98) (by decide) (by decide) (by decide) ?_
       refine cI X113 hx (hb Y e55_98) (q := 99) rfl (z := 0) rfl ?_
       refine sIw X113 hx (hb Y e55_99) (q := 101) rfl (Ls' := #[vr aP, vr a3, vr r_21, uS, vi (Int32.ofNat (n - 2)), vi 1, vi 0]) rfl ?_
       refine iLw X113 hx (hb Y e55_101) (q := 103) rfl rfl ?_
       refine ifY X113 hx (hb Y e55_103) (q := 111) (by decide) (by decide) (by decide) ?_
       refine cI X113 hx (hb Y e55_111) (q := 112) rfl (z := 1) rfl ?_
       refine g_goto X113 hx (hb Y e55_112) (q := 116) (by decide) (by decide) ?_
       refine sI X113 hx (hb Y e55_116) (q := 117) rfl (Ls' := #[vr aP, vr a3, vr r_21, vi 1, vi (Int32.ofNat (n - 2)), vi 1, vi 0]) rfl ?_
       refine g_goto X113 hx (hb Y e55_117) (q := 129) (by decide) (by decide) ?_
       refine iL X113 hx (hb Y e55_129) (q := 130) rfl rfl ?_
       have K119 : Keep h0 T21.heap [] := (Keep.refl h0 []).trans K21q all0
       have K120 : Keep h0 h22 [] := K119.ext E22
       have K121 : Keep h0 h51 [] := K120.ext E51
       have K122 : Keep h0 h67 [] := K121.ext E67
       refine endC X113 hlk hS67 (by rw [e113]; exact (Nat.le_trans hk67 (Nat.le_refl _))) hZ67 (own_EW hw) (by rw [e113]; exact f105) (fun h => by rw [hret] at h; cases h) (lastN X113 hx (t := .boolean) (z' := (1 : Int32)) hret (by simp) (by decide) (hb Y e55_130)) ?_ (by decide) (by decide)
       rw [e113]
       exact ⟨(1 : Int32), ls_21, nl_21, rfl, N113, K122, (Or.inl ⟨Or.inr ⟨hE47, Or.inl ⟨hE63, Or.inl hE106⟩⟩, rfl⟩), q21_7, q21_4, q21_5⟩
     ·show Go _ _ _ _ (T111.setTop (mkF m 76 #[vr aP, vr a3, vr r_21, uS, vi (Int32.ofNat (n - 2)), vi 1, uS] [(.int (Int32.ofNat (n - 2))), (.int (Int32.ofNat nl_21))]))
      refine icY X111 hx (hb Y e55_76) (q := 98) (by decide) (by decide) (feq (on_neq hl2 (show nl_21 < 2147483648 from by omega) (show n - 2 < 2147483648 from by omega))).2 ?_
      refine cI X111 hx (hb Y e55_98) (q := 99) rfl (z := 0) rfl ?_
      refine sIw X111 hx (hb Y e55_99) (q := 101) rfl (Ls' := #[vr aP, vr a3, vr r_21, uS, vi (Int32.ofNat (n - 2)), vi 1, vi 0]) rfl ?_
      refine iLw X111 hx (hb Y e55_101) (q := 103) rfl rfl ?_
      refine ifY X111 hx (hb Y e55_103) (q := 111) (by decide) (by decide) (by decide) ?_
      refine cI X111 hx (hb Y e55_111) (q := 112) rfl (z := 1) rfl ?_
      refine g_goto X111 hx (hb Y e55_112) (q := 116) (by decide) (by decide) ?_
      refine sI X111 hx (hb Y e55_116) (q := 117) rfl (Ls' := #[vr aP, vr a3, vr r_21, vi 1, vi (Int32.ofNat (n - 2)), vi 1, vi 0]) rfl ?_
      refine g_goto X111 hx (hb Y e55_117) (q := 129) (by decide) (by decide) ?_
      refine iL X111 hx (hb Y e55_129) (q := 130) rfl rfl ?_
      have K123 : Keep h0 T21.heap [] := (Keep.refl h0 []).trans K21q all0
      have K124 : Keep h0 h22 [] := K123.ext E22
      have K125 : Keep h0 h51 [] := K124.ext E51
      have K126 : Keep h0 h67 [] := K125.ext E67
      refine endC X111 hlk hS67 (by rw [e111]; exact (Nat.le_trans hk67 (Nat.le_refl _))) hZ67 (own_EW hw) (by rw [e111]; exact f105) (fun h => by rw [hret] at h; cases h) (lastN X111 hx (t := .boolean) (z' := (1 : Int32)) hret (by simp) (by decide) (hb Y e55_130)) ?_ (by decide) (by decide)
      rw [e111]
      exact ⟨(1 : Int32), ls_21, nl_21, rfl, N111, K126, (Or.inl ⟨Or.inr ⟨hE47, Or.inl ⟨hE63, Or.inl hE106⟩⟩, rfl⟩), q21_7, q21_4, q21_5⟩
   ·show Go _ _ _ _ (T88.setTop (mkF m 63 #[vr aP, vr a3, vr r_21, uS, vi (Int32.ofNat (n - 2)), uS, uS] [(iv 0)]))
    refine sIw X88 hx (hb Y e55_63) (q := 65) rfl (Ls' := #[vr aP, vr a3, vr r_21, uS, vi (Int32.ofNat (n - 2)), vi 0, uS]) rfl ?_
    refine iLw X88 hx (hb Y e55_65) (q := 67) rfl rfl ?_
    rcases Nat.eq_zero_or_pos (n - 2) with hp | hp
    ·have hq : ¬ (0 : Int32) < Int32.ofNat (n - 2) := by rw [hp]; exact lt_irr
     show Go _ _ _ _ (T88.setTop (mkF m 67 #[vr aP, vr a3, vr r_21, uS, vi (Int32.ofNat (n - 2)), vi 0, uS] [(.int (Int32.ofNat (n - 2)))]))
     refine ifY X88 hx (hb Y e55_67) (q := 98) (by decide) (by decide) ((if0 _ _).trans (flt hq).2.2.2) ?_
     refine cI X88 hx (hb Y e55_98) (q := 99) rfl (z := 0) rfl ?_
     refine sIw X88 hx (hb Y e55_99) (q := 101) rfl (Ls' := #[vr aP, vr a3, vr r_21, uS, vi (Int32.ofNat (n - 2)), vi 0, vi 0]) rfl ?_
     refine iLw X88 hx (hb Y e55_101) (q := 103) rfl rfl ?_
     refine ifN X88 hx (hb Y e55_103) (q := 106) rfl (by decide) ?_
     refine iLw X88 hx (hb Y e55_106) (q := 108) rfl rfl ?_
     refine ifY X88 hx (hb Y e55_108) (q := 115) (by decide) (by decide) (by decide) ?_
     refine cI X88 hx (hb Y e55_115) (q := 116) rfl (z := 0) rfl ?_
     refine sI X88 hx (hb Y e55_116) (q := 117) rfl (Ls' := #[vr aP, vr a3, vr r_21, vi 0, vi (Int32.ofNat (n - 2)), vi 0, vi 0]) rfl ?_
     refine g_goto X88 hx (hb Y e55_117) (q := 129) (by decide) (by decide) ?_
     refine iL X88 hx (hb Y e55_129) (q := 130) rfl rfl ?_
     have K127 : Keep h0 T21.heap [] := (Keep.refl h0 []).trans K21q all0
     have K128 : Keep h0 h22 [] := K127.ext E22
     have K129 : Keep h0 h51 [] := K128.ext E51
     have K130 : Keep h0 h67 [] := K129.ext E67
     refine endC X88 hlk hS67 (by rw [e88]; exact (Nat.le_trans hk67 (Nat.le_refl _))) hZ67 (own_EW hw) (by rw [e88]; exact f105) (fun h => by rw [hret] at h; cases h) (lastN X88 hx (t := .boolean) (z' := (0 : Int32)) hret (by simp) (by decide) (hb Y e55_130)) ?_ (by decide) (by decide)
     rw [e88]
     exact ⟨(0 : Int32), ls_21, nl_21, rfl, N88, K130, (Or.inr ⟨fun z => z.elim (fun y => hE47 y) (fun y => y.2.elim (fun x => x.2.elim (fun x5 => hE106 x5) (fun ⟨x1, x2, x3⟩ => absurd x1 (by omega))) (fun x => absurd hE63 x.1)), rfl⟩), q21_7, q21_4, q21_5⟩
    ·show Go _ _ _ _ (T88.setTop (mkF m 67 #[vr aP, vr a3, vr r_21, uS, vi (Int32.ofNat (n - 2)), vi 0, uS] [(.int (Int32.ofNat (n - 2)))]))
     refine ifN X88 hx (hb Y e55_67) (q := 70) rfl ((if0 _ _).trans (tlt (on_lt (i := 0) hp (show n - 2 < 2147483648 from by omega))).2.2.2) ?_
     refine aL X88 hx (hb Y e55_70) (q := 71) rfl rfl rfl ?_
     refine g_vi X88 hx hZ67 hown67 (wd161 hw) (wd49 hw) (notFace_of_selects (args := #[]) (mvT hZ67 (wd51 hw))) (wd51 hw) (wd50 hw) (by decide) f91 e88 (Con.back (W := 0) (rm_slen l Z a0 hw zC vF G r_21 ct_21 kc_21 (ls_21.map lo8V) (Int32.ofNat nl_21) h67 f69 f91 f94 f97 f100) hZ67 (wd52 hw) (wd9 hw) (by decide) (by decide)) (by rw [hml]; rfl) (lenOf pd5 rfl) rfl (Nat.le_of_eq rfl) (hb Y e55_71) (q := 74) rfl (by decide) (by decide) ?_
     intro v131 T131 L131 X131 Q131
     obtain ⟨rfl, Nq131, e131⟩ := Q131
     have N131 := Fr.app N88 Nq131
     show Go _ _ _ _ (T131.setTop (mkF m 74 _ [(.int (Int32.ofNat nl_21))]))
     refine iLw X131 hx (hb Y e55_74) (q := 76) rfl rfl ?_
     rcases Classical.em (nl_21 = n - 2) with hl2 | hl2
     ·have hq2 : Int32.ofNat nl_21 = Int32.ofNat (n - 2) := by rw [hl2]
      show Go _ _ _ _ (T131.setTop (mkF m 76 #[vr aP, vr a3, vr r_21, uS, vi (Int32.ofNat (n - 2)), vi 0, uS] [(.int (Int32.ofNat (n - 2))), (.int (Int32.ofNat nl_21))]))
      refine icN X131 hx (hb Y e55_76) (q := 79) rfl (teq hq2).2 ?_
      refine aL X131 hx (hb Y e55_79) (q := 80) rfl rfl rfl ?_
      refine cI X131 hx (hb Y e55_80) (q := 81) rfl (z := 0) rfl ?_
      refine aL X131 hx (hb Y e55_81) (q := 82) rfl rfl rfl ?_
      refine g_getF X131 hx hZ67 hown67 (host := "") (Or.inl (wd72 hw)) Via.refl f70 e131 (hb Y e55_82) (q := 85) rfl ?_
      intro T132 X132 e132
      refine cI X132 hx (hb Y e55_85) (q := 86) rfl (z := 0) rfl ?_
      refine iLw X132 hx (hb Y e55_86) (q := 88) rfl rfl ?_
      refine g_vi X132 hx hZ67 hown67 (wd213 hw) (wd214 hw) (notFace_of_selects (args := #[]) (mvT hZ67 (wd216 hw))) (wd216 hw) (wd215 hw) (by decide) f91 e132 (Con.back (W := 0) (rm_reg l Z a0 hw zC vF G r_21 ct_21 kc_21 ls_21 nl_21 a1 t kb ps n (n - 2) h67 f69 f91 f94 f97 f100 q21_4 q21_5 q21_6 f101 f102 f103 f104 Hnp Hmp Hrp (show (n - 2) ≤ n from by omega)) hZ67 (wd217 hw) (wd9 hw) (by decide) (by decide)) (by rw [hml]; rfl) (lenOf pd35 rfl) rfl (Nat.le_of_eq rfl) (hb Y e55_88) (q := 91) rfl (by decide) (by decide) ?_
      intro v133 T133 L133 X133 Q133
      obtain ⟨bb_133, rfl, Nq133, e133, q133_0⟩ := Q133
      have N133 := Fr.app N131 Nq133
      show Go _ _ _ _ (T133.setTop (mkF m 91 _ [(.int bb_133)]))
      rcases q133_0 with ⟨hE134, rfl⟩ | ⟨hE134, rfl⟩
      ·show Go _ _ _ _ (T133.setTop (mkF m 91 #[vr aP, vr a3, vr r_21, uS, vi (Int32.ofNat (n - 2)), vi 0, uS] [(iv 1)]))
       refine ifN X133 hx (hb Y e55_91) (q := 94) rfl (by decide) ?_
       refine cI X133 hx (hb Y e55_94) (q := 95) rfl (z := 1) rfl ?_
       refine g_goto X133 hx (hb Y e55_95) (q := 99) (by decide) (by decide) ?_
       refine sIw X133 hx (hb Y e55_99) (q := 101) rfl (Ls' := #[vr aP, vr a3, vr r_21, uS, vi (Int32.ofNat (n - 2)), vi 0, vi 1]) rfl ?_
       refine iLw X133 hx (hb Y e55_101) (q := 103) rfl rfl ?_
       refine ifN X133 hx (hb Y e55_103) (q := 106) rfl (by decide) ?_
       refine iLw X133 hx (hb Y e55_106) (q := 108) rfl rfl ?_
       refine ifN X133 hx (hb Y e55_108) (q := 111) rfl (by decide) ?_
       refine cI X133 hx (hb Y e55_111) (q := 112) rfl (z := 1) rfl ?_
       refine g_goto X133 hx (hb Y e55_112) (q := 116) (by decide) (by decide) ?_
       refine sI X133 hx (hb Y e55_116) (q := 117) rfl (Ls' := #[vr aP, vr a3, vr r_21, vi 1, vi (Int32.ofNat (n - 2)), vi 0, vi 1]) rfl ?_
       refine g_goto X133 hx (hb Y e55_117) (q := 129) (by decide) (by decide) ?_
       refine iL X133 hx (hb Y e55_129) (q := 130) rfl rfl ?_
       have K135 : Keep h0 T21.heap [] := (Keep.refl h0 []).trans K21q all0
       have K136 : Keep h0 h22 [] := K135.ext E22
       have K137 : Keep h0 h51 [] := K136.ext E51
       have K138 : Keep h0 h67 [] := K137.ext E67
       refine endC X133 hlk hS67 (by rw [e133]; exact (Nat.le_trans hk67 (Nat.le_refl _))) hZ67 (own_EW hw) (by rw [e133]; exact f105) (fun h => by rw [hret] at h; cases h) (lastN X133 hx (t := .boolean) (z' := (1 : Int32)) hret (by simp) (by decide) (hb Y e55_130)) ?_ (by decide) (by decide)
       rw [e133]
       exact ⟨(1 : Int32), ls_21, nl_21, rfl, N133, K138, (Or.inl ⟨Or.inr ⟨hE47, Or.inl ⟨hE63, Or.inr ⟨hp, hl2, hE134⟩⟩⟩, rfl⟩), q21_7, q21_4, q21_5⟩
      ·show Go _ _ _ _ (T133.setTop (mkF m 91 #[vr aP, vr a3, vr r_21, uS, vi (Int32.ofNat (n - 2)), vi 0, uS] [(iv 0)]))
       refine ifY X133 hx (hb Y e55_91) (q := 98) (by decide) (by decide) (by decide) ?_
       refine cI X133 hx (hb Y e55_98) (q := 99) rfl (z := 0) rfl ?_
       refine sIw X133 hx (hb Y e55_99) (q := 101) rfl (Ls' := #[vr aP, vr a3, vr r_21, uS, vi (Int32.ofNat (n - 2)), vi 0, vi 0]) rfl ?_
       refine iLw X133 hx (hb Y e55_101) (q := 103) rfl rfl ?_
       refine ifN X133 hx (hb Y e55_103) (q := 106) rfl (by decide) ?_
       refine iLw X133 hx (hb Y e55_106) (q := 108) rfl rfl ?_
       refine ifY X133 hx (hb Y e55_108) (q := 115) (by decide) (by decide) (by decide) ?_
       refine cI X133 hx (hb Y e55_115) (q := 116) rfl (z := 0) rfl ?_
       refine sI X133 hx (hb Y e55_116) (q := 117) rfl (Ls' := #[vr aP, vr a3, vr r_21, vi 0, vi (Int32.ofNat (n - 2)), vi 0, vi 0]) rfl ?_
       refine g_goto X133 hx (hb Y e55_117) (q := 129) (by decide) (by decide) ?_
       refine iL X133 hx (hb Y e55_129) (q := 130) rfl rfl ?_
       have K139 : Keep h0 T21.heap [] := (Keep.refl h0 []).trans K21q all0
       have K140 : Keep h0 h22 [] := K139.ext E22
       have K141 : Keep h0 h51 [] := K140.ext E51
       have K142 : Keep h0 h67 [] := K141.ext E67
       refine endC X133 hlk hS67 (by rw [e133]; exact (Nat.le_trans hk67 (Nat.le_refl _))) hZ67 (own_EW hw) (by rw [e133]; exact f105) (fun h => by rw [hret] at h; cases h) (lastN X133 hx (t := .boolean) (z' := (0 : Int32)) hret (by simp) (by decide) (hb Y e55_130)) ?_ (by decide) (by decide)
       rw [e133]
       exact ⟨(0 : Int32), ls_21, nl_21, rfl, N133, K142, (Or.inr ⟨fun z => z.elim (fun y => hE47 y) (fun y => y.2.elim (fun x => x.2.elim (fun x5 => hE106 x5) (fun ⟨x1, x2, x3⟩ => hE134 x3)) (fun x => absurd hE63 x.1)), rfl⟩), q21_7, q21_4, q21_5⟩
     ·show Go _ _ _ _ (T131.setTop (mkF m 76 #[vr aP, vr a3, vr r_21, uS, vi (Int32.ofNat (n - 2)), vi 0, uS] [(.int (Int32.ofNat (n - 2))), (.int (Int32.ofNat nl_21))]))
      refine icY X131 hx (hb Y e55_76) (q := 98) (by decide) (by decide) (feq (on_neq hl2 (show nl_21 < 2147483648 from by omega) (show n - 2 < 2147483648 from by omega))).2 ?_
      refine cI X131 hx (hb Y e55_98) (q := 99) rfl (z := 0) rfl ?_
      refine sIw X131 hx (hb Y e55_99) (q := 101) rfl (Ls' := #[vr aP, vr a3, vr r_21, uS, vi (Int32.ofNat (n - 2)), vi 0, vi 0]) rfl ?_
      refine iLw X131 hx (hb Y e55_101) (q := 103) rfl rfl ?_
      refine ifN X131 hx (hb Y e55_103) (q := 106) rfl (by decide) ?_
      refine iLw X131 hx (hb Y e55_106) (q := 108) rfl rfl ?_
      refine ifY X131 hx (hb Y e55_108) (q := 115) (by decide) (by decide) (by decide) ?_
      refine cI X131 hx (hb Y e55_115) (q := 116) rfl (z := 0) rfl ?_
      refine sI X131 hx (hb Y e55_116) (q := 117) rfl (Ls' := #[vr aP, vr a3, vr r_21, vi 0, vi (Int32.ofNat (n - 2)), vi 0, vi 0]) rfl ?_
      refine g_goto X131 hx (hb Y e55_117) (q := 129) (by decide) (by decide) ?_
      refine iL X131 hx (hb Y e55_129) (q := 130) rfl rfl ?_
      have K143 : Keep h0 T21.heap [] := (Keep.refl h0 []).trans K21q all0
      have K144 : Keep h0 h22 [] := K143.ext E22
      have K145 : Keep h0 h51 [] := K144.ext E51
      have K146 : Keep h0 h67 [] := K145.ext E67
      refine endC X131 hlk hS67 (by rw [e131]; exact (Nat.le_trans hk67 (Nat.le_refl _))) hZ67 (own_EW hw) (by rw [e131]; exact f105) (fun h => by rw [hret] at h; cases h) (lastN X131 hx (t := .boolean) (z' := (0 : Int32)) hret (by simp) (by decide) (hb Y e55_130)) ?_ (by decide) (by decide)
      rw [e131]
      exact ⟨(0 : Int32), ls_21, nl_21, rfl, N131, K146, (Or.inr ⟨fun z => z.elim (fun y => hE47 y) (fun y => y.2.elim (fun x => x.2.elim (fun x5 => hE106 x5) (fun ⟨x1, x2, x3⟩ => hl2 x2)) (fun x => absurd hE63 x.1)), rfl⟩), q21_7, q21_4, q21_5⟩
  ·show Go _ _ _ _ (T56.setTop (mkF m 31 #[vr aP, vr a3, vr r_21, uS, uS, uS, uS] [(iv 0)]))
   refine ifY X56 hx (hb Y e55_31) (q := 120) (by decide) (by decide) (by decide) ?_
   refine aL X56 hx (hb Y e55_120) (q := 121) rfl rfl rfl ?_
   refine aL X56 hx (hb Y e55_121) (q := 122) rfl rfl rfl ?_
   have f147 := f25.ext E51
   refine g_getF X56 hx hZ51 hown51 (host := "") (Or.inl (wd72 hw)) Via.refl f147 e56 (hb Y e55_122) (q := 125) rfl ?_
   intro T148 X148 e148
   have f158 := q21_0.ext E22
   have f159 := f158.ext E51
   have f160 := q21_1.ext E22
   have f161 := f160.ext E51
   have f162 := q21_2.ext E22
   have f163 := f162.ext E51
   have f164 := q21_3.ext E22
   have f165 := f164.ext E51
   refine g_vi X148 hx hZ51 hown51 (wd67 hw) (wd68 hw) (notFace_of_selects (args := #[]) (mvT hZ51 (wd70 hw))) (wd70 hw) (wd69 hw) (by decide) f159 e148 (Con.back (W := 0) (rm_seqg l Z a0 hw zC vF G r_21 ct_21 kc_21 ls_21 nl_21 a1 t kb ps n h51 f61 f159 f161 f163 f165 q21_4 q21_5 q21_6 f57 f58 f59 f60 Hnp Hmp Hrp) hZ51 (wd71 hw) (wd9 hw) (by decide) (by decide)) (by rw [hml]; rfl) (lenOf pd32 rfl) rfl (Nat.le_of_eq rfl) (hb Y e55_125) (q := 128) rfl (by decide) (by decide) ?_
   intro v157 T157 L157 X157 Q157
   obtain ⟨bb_157, rfl, Nq157, e157, q157_0⟩ := Q157
   have N157 := Fr.app N56 Nq157
   show Go _ _ _ _ (T157.setTop (mkF m 128 _ [(.int bb_157)]))
   rcases q157_0 with ⟨hE166, rfl⟩ | ⟨hE166, rfl⟩
   ·show Go _ _ _ _ (T157.setTop (mkF m 128 #[vr aP, vr a3, vr r_21, uS, uS, uS, uS] [(iv 1)]))
    refine sI X157 hx (hb Y e55_128) (q := 129) rfl (Ls' := #[vr aP, vr a3, vr r_21, vi 1, uS, uS, uS]) rfl ?_
    refine iL X157 hx (hb Y e55_129) (q := 130) rfl rfl ?_
    have K167 : Keep h0 T21.heap [] := (Keep.refl h0 []).trans K21q all0
    have K168 : Keep h0 h22 [] := K167.ext E22
    have K169 : Keep h0 h51 [] := K168.ext E51
    refine endC X157 hlk hS51 (by rw [e157]; exact (Nat.le_trans hk51 (Nat.le_refl _))) hZ51 (own_EW hw) (by rw [e157]; exact f62) (fun h => by rw [hret] at h; cases h) (lastN X157 hx (t := .boolean) (z' := (1 : Int32)) hret (by simp) (by decide) (hb Y e55_130)) ?_ (by decide) (by decide)
    rw [e157]
    exact ⟨(1 : Int32), ls_21, nl_21, rfl, N157, K169, (Or.inl ⟨Or.inr ⟨hE47, Or.inr ⟨hE63, hE166⟩⟩, rfl⟩), q21_7, q21_4, q21_5⟩
   ·show Go _ _ _ _ (T157.setTop (mkF m 128 #[vr aP, vr a3, vr r_21, uS, uS, uS, uS] [(iv 0)]))
    refine sI X157 hx (hb Y e55_128) (q := 129) rfl (Ls' := #[vr aP, vr a3, vr r_21, vi 0, uS, uS, uS]) rfl ?_
    refine iL X157 hx (hb Y e55_129) (q := 130) rfl rfl ?_
    have K170 : Keep h0 T21.heap [] := (Keep.refl h0 []).trans K21q all0
    have K171 : Keep h0 h22 [] := K170.ext E22
    have K172 : Keep h0 h51 [] := K171.ext E51
    refine endC X157 hlk hS51 (by rw [e157]; exact (Nat.le_trans hk51 (Nat.le_refl _))) hZ51 (own_EW hw) (by rw [e157]; exact f62) (fun h => by rw [hret] at h; cases h) (lastN X157 hx (t := .boolean) (z' := (0 : Int32)) hret (by simp) (by decide) (hb Y e55_130)) ?_ (by decide) (by decide)
    rw [e157]
    exact ⟨(0 : Int32), ls_21, nl_21, rfl, N157, K172, (Or.inr ⟨fun z => z.elim (fun y => hE47 y) (fun y => y.2.elim (fun x => hE63 x.1) (fun x => hE166 x.2)), rfl⟩), q21_7, q21_4, q21_5⟩
def SPL (kd : Int32) (pl ql : Nat) (p1 p2 : Int32) (ps : List Int32) : Prop := (kd = 0 ∧ [42] = ps) ∨ (¬ kd = 0 ∧ kd = 1 ∧ ps = List.take pl [47, p1, 47, p2]) ∨ (¬ kd = 0 ∧ ¬ kd = 1 ∧ ps = List.take ql [47, p1, 47, p2] ++ [47, 42])
def QLP (pl q : Nat) : Prop := (pl = 1 ∧ q = 0) ∨ (pl = 2 ∧ q = 2) ∨ (pl = 3 ∧ q = 2) ∨ (pl = 4 ∧ q = 4)
def CUP (es : List Int32) (el k q : Nat) : Prop := q ≤ el ∧ (q = el ∨ es.getD q 0 = 63) ∧ ∀ j, k ≤ j → j < q → ¬ es.getD j 0 = 63
def NPP (es : List Int32) (ct i nl : Nat) (nv : List Value) : Prop := nv.length = 5 ∧ nl = (sqz es (min i ct)).length ∧ ∀ k, k < nl → nv.getD k (.int 0) = .int ((sqz es (min i ct)).getD k 0)
theorem npp_le {es : List Int32} {ct i nl : Nat} {nv : List Value} (H : NPP es ct i nl nv) : nl ≤ i := by
  have q := sqz_le es (min i ct)
  rw [H.2.1]; omega
theorem npp_0 {es : List Int32} {ct : Nat} : NPP es ct 0 0 [.int 0, .int 0, .int 0, .int 0, .int 0] := ⟨rfl, by rw [Nat.zero_min]; rfl, fun k hk => absurd hk (Nat.not_lt_zero _)⟩
theorem npp_no1 {es : List Int32} {ct i nl : Nat} {nv : List Value} (H : NPP es ct i nl nv) (h : ct ≤ i) : NPP es ct (i + 1) nl nv := by
  unfold NPP at *; rw [Nat.min_eq_right h] at H; rw [Nat.min_eq_right (by omega)]; exact H
theorem npp_no2 {es : List Int32} {ct i nl : Nat} {nv : List Value} (H : NPP es ct i nl nv) (h : i < ct) (hk : ¬ KEEP es i) : NPP es ct (i + 1) nl nv := by
  unfold NPP at *; rw [Nat.min_eq_left (by omega)] at H; rw [Nat.min_eq_left (by omega), sqz_no hk]; exact H
theorem npp_yes {es : List Int32} {ct i nl : Nat} {nv : List Value} {x : Int32} (H : NPP es ct i nl nv) (h : i < ct) (h5 : i < 5) (hk : KEEP es i) (hx : x = es.getD i 0) : NPP es ct (i + 1) (nl + 1) (nv.set nl (.int x)) := by
  have hl := npp_le H
  obtain ⟨h1, h2, h3⟩ := H
  rw [Nat.min_eq_left (by omega)] at h2 h3
  unfold NPP
  rw [Nat.min_eq_left (by omega), sqz_yes hk]
  refine ⟨by rw [List.length_set]; exact h1, by rw [List.length_append, ← h2]; rfl, fun k hk2 => ?_⟩
  rw [List.getD_eq_getElem?_getD, List.getElem?_set, List.getD_eq_getElem?_getD]
  by_cases e : nl = k
  · subst e
    rw [if_pos rfl, if_pos (by omega), h2, List.getElem?_append_right (Nat.le_refl _), Nat.sub_self, hx]; rfl
  · rw [if_neg e, List.getElem?_append_left (by omega), ← List.getD_eq_getElem?_getD, ← List.getD_eq_getElem?_getD]
    exact h3 k (by omega)
theorem cup_a {es : List Int32} {el k q : Nat} (H : CUP es el (k + 1) q) (h : el ≤ k ∨ ¬ es.getD k 0 = 63) : CUP es el k q := ⟨H.1, H.2.1, fun j h1 h2 => by
  rcases Nat.lt_or_eq_of_le h1 with h3 | h3
  · exact H.2.2 j h3 h2
  · subst h3; exact h.elim (fun z => absurd h2 (by have := H.1; omega)) id⟩
theorem cup_b {es : List Int32} {el k : Nat} (h : k < el) (h2 : es.getD k 0 = 63) : CUP es el k k := ⟨by omega, Or.inr h2, fun j h1 h3 => absurd h3 (by omega)⟩
theorem sqz_take {cs : List Int32} {m : Nat} : ∀ i, i ≤ m → sqz (List.take m cs) i = sqz cs i
  | 0, _ => rfl
  | i + 1, h => by
    have q := sqz_take (cs := cs) (m := m) i (by omega)
    have e : KEEP (List.take m cs) i ↔ KEEP cs i := by unfold KEEP; rw [tk_get (show i < m from by omega), tk_get (show i - 1 < m from by omega)]
    by_cases hk : KEEP cs i
    · rw [sqz_yes hk, sqz_yes (e.mpr hk), q, tk_get (by omega)]
    · rw [sqz_no hk, sqz_no (fun z => hk (e.mp z)), q]
theorem nrm_is {es ls : List Int32} {el ct : Nat} (hl : el ≤ es.length) (hN : NRM (List.take el es) ls) (hC : CUP es el 0 ct) : ls = sqz es ct := by
  obtain ⟨e, e1, e2, e3, rfl⟩ := hN
  have l : (List.take el es).length = el := by rw [List.length_take]; omega
  rw [l] at e1 e2
  have he : e = ct := by
    rcases Nat.lt_trichotomy e ct with q | q | q
    · have h1 := hC.1
      have h2 := e2.elim (fun z => absurd z (by omega)) id
      rw [tk_get (by omega)] at h2
      exact absurd h2 (hC.2.2 e (Nat.zero_le _) q)
    · exact q
    · have h2 := hC.2.1.elim (fun z => absurd z (by omega)) id
      have h3 := e3 ct q
      rw [tk_get (by omega)] at h3
      exact absurd h2 h3
  subst he
  rw [sqz_take e (Nat.le_refl _), sqz_take e e1]
theorem own_sh (x : Int32) : ∃ sh : Nat, x &&& 3 = Int32.ofNat sh ∧ sh < 4 := by
  have h := c_mask x 3 2 (by decide) (by decide)
  have h3 : (2 ^ 2 : Nat) = 4 := by decide
  rw [h3] at h
  refine ⟨(x &&& 3).toInt.toNat, ?_, by omega⟩
  apply Int32.toInt_inj.mp
  rw [on_int (by omega)]; omega
theorem own_el (x : Int32) : ∃ el : Nat, (x &&& 2147483647) % 6 = Int32.ofNat el ∧ el ≤ 5 := by
  have h := c_mask x 2147483647 31 (by decide) (by decide)
  have h2 := (c_irem (x &&& 2147483647) 6 6 (by decide)).1
  have h3 : (2 ^ 31 : Nat) = 2147483648 := by decide
  rw [h3] at h
  have h4 := h2 (by omega)
  refine ⟨((x &&& 2147483647) % 6).toInt.toNat, ?_, by omega⟩
  apply Int32.toInt_inj.mp
  rw [on_int (by omega)]; omega
theorem e48_0 : Dc kC54 0 (.iload_n 0) 1 := by decide +kernel
theorem e48_1 : Dc kC54 1 (.sipush 255) 3 := by decide +kernel
theorem e48_4 : Dc kC54 4 .iand 1 := by decide +kernel
theorem e48_5 : Dc kC54 5 .i2c 1 := by decide +kernel
theorem e48_6 : Dc kC54 6 (.istore_n 1) 1 := by decide +kernel
theorem e48_7 : Dc kC54 7 (.iload_n 1) 1 := by decide +kernel
theorem e48_8 : Dc kC54 8 (.bipush 47) 2 := by decide +kernel
theorem e48_10 : Dc kC54 10 (.if_icmp .eq 15) 3 := by decide +kernel
theorem e48_25 : Dc kC54 25 (.bipush 97) 2 := by decide +kernel
theorem e48_27 : Dc kC54 27 .ireturn 1 := by decide +kernel
theorem e48_13 : Dc kC54 13 (.iload_n 1) 1 := by decide +kernel
theorem e48_14 : Dc kC54 14 (.bipush 63) 2 := by decide +kernel
theorem e48_16 : Dc kC54 16 (.if_icmp .eq 9) 3 := by decide +kernel
theorem e48_19 : Dc kC54 19 (.iload_n 1) 1 := by decide +kernel
theorem e48_20 : Dc kC54 20 (.bipush 42) 2 := by decide +kernel
theorem e48_22 : Dc kC54 22 (.if_icmp .ne 6) 3 := by decide +kernel
theorem e48_28 : Dc kC54 28 (.iload_n 1) 1 := by decide +kernel
theorem e48_29 : Dc kC54 29 .ireturn 1 := by decide +kernel
def Q_seg (Z : State) (zC : Int32) (vF : Value) (x : Int32) (h0 : Heap) (v : Option Value) (h : Heap) (L : List Loc) : Prop := ∃ (yc : Int32), v = some (.int yc) ∧ Fr Z.heap.size L ∧ h = h0 ∧ (¬ (yc < (0 : Int32))) ∧ (¬ ((255 : Int32) < yc)) ∧ (¬ (yc = (47 : Int32))) ∧ (¬ (yc = (63 : Int32))) ∧ (¬ (yc = (42 : Int32)))
theorem pn11 : plainName "com/example/usage_throttle/usagethrottle/model/EndpointPatternMatchesPinLaw" = true := by first | (simp [plainName, overriddenIn]; done) | decide +kernel
theorem rm_seg (l : Launch) (Z : State) (a0 : Array Value) (hw : HW a0 Z) (zC : Int32) (vF : Value) (G : GB l a0 Z zC vF) (x : Int32) (h0 : Heap) (O0 : Old Z Z.heap.size h0)  :
    Con l Z (⟨sT3, "segChar", "(I)C"⟩ : MethodName) kC54 2 (some .char) ({ frames := 0, cells := 0, slots := 0, locals := 0 } : Room) #[(.int x)] h0 (Q_seg Z zC vF x h0) := by
 refine Con.intro (plainFor_of_name pn11) ?_
 intro p e s m below meth c T0 X0 hx Y hml hown0 hnm hret hlk hZ0 e0
 have N0 := Fr.nil Z.heap.size
 refine castGo (g' := mkF m 0 #[vi x, uS] []) (by first | rfl | (simp [entryFrame, mkF, argsToLocals, Value.category]; done)) ?_
 show Go _ _ _ _ (T0.setTop (mkF m 0 #[vi x, uS] []))
 refine iL X0 hx (hb Y e48_0) (q := 1) rfl rfl ?_
 refine pI X0 hx (hb Y e48_1) (q := 4) rfl (z := 255) rfl ?_
 refine g_iand X0 hx (hb Y e48_4) (q := 5) rfl rfl ?_
 refine g_i2c X0 hx (hb Y e48_5) (q := 6) rfl (z := (chr x)) rfl ?_
 refine sI X0 hx (hb Y e48_6) (q := 7) rfl (Ls' := #[vi x, vi (chr x)]) rfl ?_
 refine iL X0 hx (hb Y e48_7) (q := 8) rfl rfl ?_
 refine bI X0 hx (hb Y e48_8) (q := 10) rfl (z := 47) rfl ?_
 by_cases hc21 : (chr x) = (47 : Int32)
 ·refine icY X0 hx (hb Y e48_10) (q := 25) (by decide) (by decide) (teq hc21).1 ?_
  refine bI X0 hx (hb Y e48_25) (q := 27) rfl (z := 97) rfl ?_
  refine endP X0 hlk (fun h => by rw [hret] at h; cases h) (lastN X0 hx (t := .char) (z' := (97 : Int32)) hret (by simp) (by decide) (hb Y e48_27)) ?_ (by decide) (by decide)
  rw [e0]
  refine ⟨(97 : Int32), rfl, N0, rfl, ?_, ?_, ?_, ?_, ?_⟩
  ·exact (by decide)
  ·exact (by decide)
  ·exact (by decide)
  ·exact (by decide)
  ·exact (by decide)
 ·refine icN X0 hx (hb Y e48_10) (q := 13) rfl (feq hc21).1 ?_
  refine iL X0 hx (hb Y e48_13) (q := 14) rfl rfl ?_
  refine bI X0 hx (hb Y e48_14) (q := 16) rfl (z := 63) rfl ?_
  by_cases hc22 : (chr x) = (63 : Int32)
  ·refine icY X0 hx (hb Y e48_16) (q := 25) (by decide) (by decide) (teq hc22).1 ?_
   refine bI X0 hx (hb Y e48_25) (q := 27) rfl (z := 97) rfl ?_
   refine endP X0 hlk (fun h => by rw [hret] at h; cases h) (lastN X0 hx (t := .char) (z' := (97 : Int32)) hret (by simp) (by decide) (hb Y e48_27)) ?_ (by decide) (by decide)
   rw [e0]
   refine ⟨(97 : Int32), rfl, N0, rfl, ?_, ?_, ?_, ?_, ?_⟩
   ·exact (by decide)
   ·exact (by decide)
   ·exact (by decide)
   ·exact (by decide)
   ·exact (by decide)
  ·refine icN X0 hx (hb Y e48_16) (q := 19) rfl (feq hc22).1 ?_
   refine iL X0 hx (hb Y e48_19) (q := 20) rfl rfl ?_
   refine bI X0 hx (hb Y e48_20) (q := 22) rfl (z := 42) rfl ?_
   by_cases hc23 : (chr x) = (42 : Int32)
   ·refine icN X0 hx (hb Y e48_22) (q := 25) rfl (teq hc23).2 ?_
    refine bI X0 hx (hb Y e48_25) (q := 27) rfl (z := 97) rfl ?_
    refine endP X0 hlk (fun h => by rw [hret] at h; cases h) (lastN X0 hx (t := .char) (z' := (97 : Int32)) hret (by simp) (by decide) (hb Y e48_27)) ?_ (by decide) (by decide)
    rw [e0]
    refine ⟨(97 : Int32), rfl, N0, rfl, ?_, ?_, ?_, ?_, ?_⟩
    ·exact (by decide)
    ·exact (by decide)
    ·exact (by decide)
    ·exact (by decide)
    ·exact (by decide)
   ·refine icY X0 hx (hb Y e48_22) (q := 28) (by decide) (by decide) (feq hc23).2 ?_
    refine iL X0 hx (hb Y e48_28) (q := 29) rfl rfl ?_
    refine endP X0 hlk (fun h => by rw [hret] at h; cases h) (lastN X0 hx (t := .char) (z' := (chr x)) hret (by simp) (chr_nar _) (hb Y e48_29)) ?_ (by decide) (by decide)
    rw [e0]
    refine ⟨(chr x), rfl, N0, rfl, ?_, ?_, hc21, hc22, hc23⟩
    ·exact (chr_rng _).1
    ·exact (chr_rng _).2
theorem e49_0 : Dc kC56 0 (.iload_n 0) 1 := by decide +kernel
theorem e49_1 : Dc kC56 1 (.sipush 255) 3 := by decide +kernel
theorem e49_4 : Dc kC56 4 .iand 1 := by decide +kernel
theorem e49_5 : Dc kC56 5 (.istore_n 3) 1 := by decide +kernel
theorem e49_6 : Dc kC56 6 (.iload_n 0) 1 := by decide +kernel
theorem e49_7 : Dc kC56 7 (.bipush 8) 2 := by decide +kernel
theorem e49_9 : Dc kC56 9 .iushr 1 := by decide +kernel
theorem e49_10 : Dc kC56 10 (.iconst 3) 1 := by decide +kernel
theorem e49_11 : Dc kC56 11 .iand 1 := by decide +kernel
theorem e49_12 : Dc kC56 12 (.istore 4) 2 := by decide +kernel
theorem e49_14 : Dc kC56 14 (.iload 4) 2 := by decide +kernel
theorem e49_16 : Dc kC56 16 (.ifCond .ne 6) 3 := by decide +kernel
theorem e49_19 : Dc kC56 19 (.bipush 47) 2 := by decide +kernel
theorem e49_21 : Dc kC56 21 .ireturn 1 := by decide +kernel
theorem e49_22 : Dc kC56 22 (.iload 4) 2 := by decide +kernel
theorem e49_24 : Dc kC56 24 (.iconst 1) 1 := by decide +kernel
theorem e49_25 : Dc kC56 25 (.if_icmp .ne 6) 3 := by decide +kernel
theorem e49_28 : Dc kC56 28 (.bipush 63) 2 := by decide +kernel
theorem e49_30 : Dc kC56 30 .ireturn 1 := by decide +kernel
theorem e49_31 : Dc kC56 31 (.iload 4) 2 := by decide +kernel
theorem e49_33 : Dc kC56 33 (.iconst 2) 1 := by decide +kernel
theorem e49_34 : Dc kC56 34 (.if_icmp .ne 15) 3 := by decide +kernel
theorem e49_37 : Dc kC56 37 (.iload_n 3) 1 := by decide +kernel
theorem e49_38 : Dc kC56 38 (.iconst 1) 1 := by decide +kernel
theorem e49_39 : Dc kC56 39 .iand 1 := by decide +kernel
theorem e49_40 : Dc kC56 40 (.ifCond .ne 7) 3 := by decide +kernel
theorem e49_43 : Dc kC56 43 (.iload_n 1) 1 := by decide +kernel
theorem e49_44 : Dc kC56 44 (.goto 4) 3 := by decide +kernel
theorem e49_48 : Dc kC56 48 .ireturn 1 := by decide +kernel
theorem e49_47 : Dc kC56 47 (.iload_n 2) 1 := by decide +kernel
theorem e49_49 : Dc kC56 49 (.iload_n 3) 1 := by decide +kernel
theorem e49_50 : Dc kC56 50 .i2c 1 := by decide +kernel
theorem e49_51 : Dc kC56 51 .ireturn 1 := by decide +kernel
def Q_draw (Z : State) (zC : Int32) (vF : Value) (x p1 p2 : Int32) (h0 : Heap) (v : Option Value) (h : Heap) (L : List Loc) : Prop := ∃ (yc : Int32), v = some (.int yc) ∧ Fr Z.heap.size L ∧ h = h0 ∧ (¬ (yc < (0 : Int32))) ∧ (¬ ((255 : Int32) < yc))
theorem rm_draw (l : Launch) (Z : State) (a0 : Array Value) (hw : HW a0 Z) (zC : Int32) (vF : Value) (G : GB l a0 Z zC vF) (x p1 p2 : Int32) (h0 : Heap) (O0 : Old Z Z.heap.size h0) (H1 : (¬ (p1 < (0 : Int32)))) (J1 : (¬ ((255 : Int32) < p1))) (H2 : (¬ (p2 < (0 : Int32)))) (J2 : (¬ ((255 : Int32) < p2))) :
    Con l Z (⟨sT3, "draw", "(ICC)C"⟩ : MethodName) kC56 5 (some .char) ({ frames := 0, cells := 0, slots := 0, locals := 0 } : Room) #[(.int x), (.int p1), (.int p2)] h0 (Q_draw Z zC vF x p1 p2 h0) := by
 refine Con.intro (plainFor_of_name pn11) ?_
 intro p e s m below meth c T0 X0 hx Y hml hown0 hnm hret hlk hZ0 e0
 have N0 := Fr.nil Z.heap.size
 refine castGo (g' := mkF m 0 #[vi x, vi p1, vi p2, uS, uS] []) (by first | rfl | (simp [entryFrame, mkF, argsToLocals, Value.category]; done)) ?_
 show Go _ _ _ _ (T0.setTop (mkF m 0 #[vi x, vi p1, vi p2, uS, uS] []))
 refine iL X0 hx (hb Y e49_0) (q := 1) rfl rfl ?_
 refine pI X0 hx (hb Y e49_1) (q := 4) rfl (z := 255) rfl ?_
 refine g_iand X0 hx (hb Y e49_4) (q := 5) rfl rfl ?_
 refine sI X0 hx (hb Y e49_5) (q := 6) rfl (Ls' := #[vi x, vi p1, vi p2, vi (x &&& (255 : Int32)), uS]) rfl ?_
 refine iL X0 hx (hb Y e49_6) (q := 7) rfl rfl ?_
 refine bI X0 hx (hb Y e49_7) (q := 9) rfl (z := 8) rfl ?_
 refine g_iushr X0 hx (hb Y e49_9) (q := 10) rfl rfl ?_
 refine cI X0 hx (hb Y e49_10) (q := 11) rfl (z := 3) rfl ?_
 refine g_iand X0 hx (hb Y e49_11) (q := 12) rfl rfl ?_
 refine sIw X0 hx (hb Y e49_12) (q := 14) rfl (Ls' := #[vi x, vi p1, vi p2, vi (x &&& (255 : Int32)), vi (((x.toUInt32 >>> ((8 : Int32) &&& 31).toUInt32).toInt32) &&& (3 : Int32))]) rfl ?_
 refine iLw X0 hx (hb Y e49_14) (q := 16) rfl rfl ?_
 by_cases hc21 : (((x.toUInt32 >>> ((8 : Int32) &&& 31).toUInt32).toInt32) &&& (3 : Int32)) = (0 : Int32)
 ·refine ifN X0 hx (hb Y e49_16) (q := 19) rfl ((if0 _ _).trans (teq hc21).2) ?_
  refine bI X0 hx (hb Y e49_19) (q := 21) rfl (z := 47) rfl ?_
  refine endP X0 hlk (fun h => by rw [hret] at h; cases h) (lastN X0 hx (t := .char) (z' := (47 : Int32)) hret (by simp) (by decide) (hb Y e49_21)) ?_ (by decide) (by decide)
  rw [e0]
  refine ⟨(47 : Int32), rfl, N0, rfl, ?_, ?_⟩
  ·exact (by decide)
  ·exact (by decide)
 ·refine ifY X0 hx (hb Y e49_16) (q := 22) (by decide) (by decide) ((if0 _ _).trans (feq hc21).2) ?_
  refine iLw X0 hx (hb Y e49_22) (q := 24) rfl rfl ?_
  refine cI X0 hx (hb Y e49_24) (q := 25) rfl (z := 1) rfl ?_
  by_cases hc22 : (((x.toUInt32 >>> ((8 : Int32) &&& 31).toUInt32).toInt32) &&& (3 : Int32)) = (1 : Int32)
  ·refine icN X0 hx (hb Y e49_25) (q := 28) rfl (teq hc22).2 ?_
   refine bI X0 hx (hb Y e49_28) (q := 30) rfl (z := 63) rfl ?_
   refine endP X0 hlk (fun h => by rw [hret] at h; cases h) (lastN X0 hx (t := .char) (z' := (63 : Int32)) hret (by simp) (by decide) (hb Y e49_30)) ?_ (by decide) (by decide)
   rw [e0]
   refine ⟨(63 : Int32), rfl, N0, rfl, ?_, ?_⟩
   ·exact (by decide)
   ·exact (by decide)
  ·refine icY X0 hx (hb Y e49_25) (q := 31) (by decide) (by decide) (feq hc22).2 ?_
   refine iLw X0 hx (hb Y e49_31) (q := 33) rfl rfl ?_
   refine cI X0 hx (hb Y e49_33) (q := 34) rfl (z := 2) rfl ?_
   by_cases hc23 : (((x.toUInt32 >>> ((8 : Int32) &&& 31).toUInt32).toInt32) &&& (3 : Int32)) = (2 : Int32)
   ·refine icN X0 hx (hb Y e49_34) (q := 37) rfl (teq hc23).2 ?_
    refine iL X0 hx (hb Y e49_37) (q := 38) rfl rfl ?_
    refine cI X0 hx (hb Y e49_38) (q := 39) rfl (z := 1) rfl ?_
    refine g_iand X0 hx (hb Y e49_39) (q := 40) rfl rfl ?_
    by_cases hc24 : ((x &&& (255 : Int32)) &&& (1 : Int32)) = (0 : Int32)
    ·refine ifN X0 hx (hb Y e49_40) (q := 43) rfl ((if0 _ _).trans (teq hc24).2) ?_
     refine iL X0 hx (hb Y e49_43) (q := 44) rfl rfl ?_
     refine g_goto X0 hx (hb Y e49_44) (q := 48) (by decide) (by decide) ?_
     refine endP X0 hlk (fun h => by rw [hret] at h; cases h) (lastN X0 hx (t := .char) (z' := p1) hret (by simp) (nar_of255 H1 J1) (hb Y e49_48)) ?_ (by decide) (by decide)
     rw [e0]
     exact ⟨p1, rfl, N0, rfl, H1, J1⟩
    ·refine ifY X0 hx (hb Y e49_40) (q := 47) (by decide) (by decide) ((if0 _ _).trans (feq hc24).2) ?_
     refine iL X0 hx (hb Y e49_47) (q := 48) rfl rfl ?_
     refine endP X0 hlk (fun h => by rw [hret] at h; cases h) (lastN X0 hx (t := .char) (z' := p2) hret (by simp) (nar_of255 H2 J2) (hb Y e49_48)) ?_ (by decide) (by decide)
     rw [e0]
     exact ⟨p2, rfl, N0, rfl, H2, J2⟩
   ·refine icY X0 hx (hb Y e49_34) (q := 49) (by decide) (by decide) (feq hc23).2 ?_
    refine iL X0 hx (hb Y e49_49) (q := 50) rfl rfl ?_
    refine g_i2c X0 hx (hb Y e49_50) (q := 51) rfl (z := (chr x)) rfl ?_
    refine endP X0 hlk (fun h => by rw [hret] at h; cases h) (lastN X0 hx (t := .char) (z' := (chr x)) hret (by simp) (chr_nar _) (hb Y e49_51)) ?_ (by decide) (by decide)
    rw [e0]
    refine ⟨(chr x), rfl, N0, rfl, ?_, ?_⟩
    ·exact (chr_rng _).1
    ·exact (chr_rng _).2
theorem e50_0 : Dc kC55 0 (.iload_n 0) 1 := by decide +kernel
theorem e50_1 : Dc kC55 1 (.ifCond .ne 6) 3 := by decide +kernel
theorem e50_4 : Dc kC55 4 (.ldc 45) 2 := by decide +kernel
theorem e50_6 : Dc kC55 6 .areturn 1 := by decide +kernel
theorem e50_7 : Dc kC55 7 (.iload_n 0) 1 := by decide +kernel
theorem e50_8 : Dc kC55 8 (.iconst 1) 1 := by decide +kernel
theorem e50_9 : Dc kC55 9 (.if_icmp .ne 96) 3 := by decide +kernel
theorem e50_12 : Dc kC55 12 (.iload_n 1) 1 := by decide +kernel
theorem e50_13 : Dc kC55 13 (.iconst 1) 1 := by decide +kernel
theorem e50_14 : Dc kC55 14 (.if_icmp .ne 6) 3 := by decide +kernel
theorem e50_17 : Dc kC55 17 (.ldc 47) 2 := by decide +kernel
theorem e50_19 : Dc kC55 19 .areturn 1 := by decide +kernel
theorem e50_20 : Dc kC55 20 (.iload_n 1) 1 := by decide +kernel
theorem e50_21 : Dc kC55 21 (.iconst 2) 1 := by decide +kernel
theorem e50_22 : Dc kC55 22 (.if_icmp .ne 23) 3 := by decide +kernel
theorem e50_25 : Dc kC55 25 (.new 49) 3 := by decide +kernel
theorem wd138 (hw : HW a0 Z) : BW a0 Z (.classLink sT3 (49 : Nat) sT0) := wat hw 138 rfl
theorem e50_28 : Dc kC55 28 .dup 1 := by decide +kernel
theorem e50_29 : Dc kC55 29 (.iconst 2) 1 := by decide +kernel
theorem e50_30 : Dc kC55 30 (.newarray .char) 2 := by decide +kernel
theorem wd4 (hw : HW a0 Z) : BW a0 Z (.arrayClass Jvm.ClassFile.FieldType.char) := wat hw 4 rfl
theorem e50_32 : Dc kC55 32 .dup 1 := by decide +kernel
theorem e50_33 : Dc kC55 33 (.iconst 0) 1 := by decide +kernel
theorem e50_34 : Dc kC55 34 (.bipush 47) 2 := by decide +kernel
theorem e50_36 : Dc kC55 36 .castore 1 := by decide +kernel
theorem e50_37 : Dc kC55 37 .dup 1 := by decide +kernel
theorem e50_38 : Dc kC55 38 (.iconst 1) 1 := by decide +kernel
theorem e50_39 : Dc kC55 39 (.iload_n 3) 1 := by decide +kernel
theorem e50_40 : Dc kC55 40 .castore 1 := by decide +kernel
theorem e50_41 : Dc kC55 41 (.invokespecial 51) 3 := by decide +kernel
theorem wd141 (hw : HW a0 Z) : BW a0 Z (.code ⟨sT0, "<init>", "([C)V"⟩ kC46 (2 : Nat) (Option.none : Option Jvm.ClassFile.FieldType)) := wat hw 141 rfl
theorem pd36 : parseMethodDescriptor "([C)V" = some ⟨[(.array .char)], none⟩ := by decide +kernel
theorem wd139 (hw : HW a0 Z) : BW a0 Z (.methodLink sT3 (51 : Nat) ⟨sT0, "<init>", "([C)V"⟩) := wat hw 139 rfl
theorem wd140 (hw : HW a0 Z) : BW a0 Z (.instanceMethod ⟨sT0, "<init>", "([C)V"⟩) := wat hw 140 rfl
theorem e50_44 : Dc kC55 44 .areturn 1 := by decide +kernel
theorem e50_45 : Dc kC55 45 (.iload_n 1) 1 := by decide +kernel
theorem e50_46 : Dc kC55 46 (.iconst 3) 1 := by decide +kernel
theorem e50_47 : Dc kC55 47 (.if_icmp .ne 28) 3 := by decide +kernel
theorem e50_50 : Dc kC55 50 (.new 49) 3 := by decide +kernel
theorem e50_53 : Dc kC55 53 .dup 1 := by decide +kernel
theorem e50_54 : Dc kC55 54 (.iconst 3) 1 := by decide +kernel
theorem e50_55 : Dc kC55 55 (.newarray .char) 2 := by decide +kernel
theorem e50_57 : Dc kC55 57 .dup 1 := by decide +kernel
theorem e50_58 : Dc kC55 58 (.iconst 0) 1 := by decide +kernel
theorem e50_59 : Dc kC55 59 (.bipush 47) 2 := by decide +kernel
theorem e50_61 : Dc kC55 61 .castore 1 := by decide +kernel
theorem e50_62 : Dc kC55 62 .dup 1 := by decide +kernel
theorem e50_63 : Dc kC55 63 (.iconst 1) 1 := by decide +kernel
theorem e50_64 : Dc kC55 64 (.iload_n 3) 1 := by decide +kernel
theorem e50_65 : Dc kC55 65 .castore 1 := by decide +kernel
theorem e50_66 : Dc kC55 66 .dup 1 := by decide +kernel
theorem e50_67 : Dc kC55 67 (.iconst 2) 1 := by decide +kernel
theorem e50_68 : Dc kC55 68 (.bipush 47) 2 := by decide +kernel
theorem e50_70 : Dc kC55 70 .castore 1 := by decide +kernel
theorem e50_71 : Dc kC55 71 (.invokespecial 51) 3 := by decide +kernel
theorem e50_74 : Dc kC55 74 .areturn 1 := by decide +kernel
theorem e50_75 : Dc kC55 75 (.new 49) 3 := by decide +kernel
theorem e50_78 : Dc kC55 78 .dup 1 := by decide +kernel
theorem e50_79 : Dc kC55 79 (.iconst 4) 1 := by decide +kernel
theorem e50_80 : Dc kC55 80 (.newarray .char) 2 := by decide +kernel
theorem e50_82 : Dc kC55 82 .dup 1 := by decide +kernel
theorem e50_83 : Dc kC55 83 (.iconst 0) 1 := by decide +kernel
theorem e50_84 : Dc kC55 84 (.bipush 47) 2 := by decide +kernel
theorem e50_86 : Dc kC55 86 .castore 1 := by decide +kernel
theorem e50_87 : Dc kC55 87 .dup 1 := by decide +kernel
theorem e50_88 : Dc kC55 88 (.iconst 1) 1 := by decide +kernel
theorem e50_89 : Dc kC55 89 (.iload_n 3) 1 := by decide +kernel
theorem e50_90 : Dc kC55 90 .castore 1 := by decide +kernel
theorem e50_91 : Dc kC55 91 .dup 1 := by decide +kernel
theorem e50_92 : Dc kC55 92 (.iconst 2) 1 := by decide +kernel
theorem e50_93 : Dc kC55 93 (.bipush 47) 2 := by decide +kernel
theorem e50_95 : Dc kC55 95 .castore 1 := by decide +kernel
theorem e50_96 : Dc kC55 96 .dup 1 := by decide +kernel
theorem e50_97 : Dc kC55 97 (.iconst 3) 1 := by decide +kernel
theorem e50_98 : Dc kC55 98 (.iload 4) 2 := by decide +kernel
theorem e50_100 : Dc kC55 100 .castore 1 := by decide +kernel
theorem e50_101 : Dc kC55 101 (.invokespecial 51) 3 := by decide +kernel
theorem e50_104 : Dc kC55 104 .areturn 1 := by decide +kernel
theorem e50_105 : Dc kC55 105 (.iload_n 2) 1 := by decide +kernel
theorem e50_106 : Dc kC55 106 (.ifCond .ne 6) 3 := by decide +kernel
theorem e50_109 : Dc kC55 109 (.ldc 54) 2 := by decide +kernel
theorem e50_111 : Dc kC55 111 .areturn 1 := by decide +kernel
theorem e50_112 : Dc kC55 112 (.iload_n 2) 1 := by decide +kernel
theorem e50_113 : Dc kC55 113 (.iconst 2) 1 := by decide +kernel
theorem e50_114 : Dc kC55 114 (.if_icmp .ne 33) 3 := by decide +kernel
theorem e50_117 : Dc kC55 117 (.new 49) 3 := by decide +kernel
theorem e50_120 : Dc kC55 120 .dup 1 := by decide +kernel
theorem e50_121 : Dc kC55 121 (.iconst 4) 1 := by decide +kernel
theorem e50_122 : Dc kC55 122 (.newarray .char) 2 := by decide +kernel
theorem e50_124 : Dc kC55 124 .dup 1 := by decide +kernel
theorem e50_125 : Dc kC55 125 (.iconst 0) 1 := by decide +kernel
theorem e50_126 : Dc kC55 126 (.bipush 47) 2 := by decide +kernel
theorem e50_128 : Dc kC55 128 .castore 1 := by decide +kernel
theorem e50_129 : Dc kC55 129 .dup 1 := by decide +kernel
theorem e50_130 : Dc kC55 130 (.iconst 1) 1 := by decide +kernel
theorem e50_131 : Dc kC55 131 (.iload_n 3) 1 := by decide +kernel
theorem e50_132 : Dc kC55 132 .castore 1 := by decide +kernel
theorem e50_133 : Dc kC55 133 .dup 1 := by decide +kernel
theorem e50_134 : Dc kC55 134 (.iconst 2) 1 := by decide +kernel
theorem e50_135 : Dc kC55 135 (.bipush 47) 2 := by decide +kernel
theorem e50_137 : Dc kC55 137 .castore 1 := by decide +kernel
theorem e50_138 : Dc kC55 138 .dup 1 := by decide +kernel
theorem e50_139 : Dc kC55 139 (.iconst 3) 1 := by decide +kernel
theorem e50_140 : Dc kC55 140 (.bipush 42) 2 := by decide +kernel
theorem e50_142 : Dc kC55 142 .castore 1 := by decide +kernel
theorem e50_143 : Dc kC55 143 (.invokespecial 51) 3 := by decide +kernel
theorem e50_146 : Dc kC55 146 .areturn 1 := by decide +kernel
theorem e50_147 : Dc kC55 147 (.new 49) 3 := by decide +kernel
theorem e50_150 : Dc kC55 150 .dup 1 := by decide +kernel
theorem e50_151 : Dc kC55 151 (.bipush 6) 2 := by decide +kernel
theorem e50_153 : Dc kC55 153 (.newarray .char) 2 := by decide +kernel
theorem e50_155 : Dc kC55 155 .dup 1 := by decide +kernel
theorem e50_156 : Dc kC55 156 (.iconst 0) 1 := by decide +kernel
theorem e50_157 : Dc kC55 157 (.bipush 47) 2 := by decide +kernel
theorem e50_159 : Dc kC55 159 .castore 1 := by decide +kernel
theorem e50_160 : Dc kC55 160 .dup 1 := by decide +kernel
theorem e50_161 : Dc kC55 161 (.iconst 1) 1 := by decide +kernel
theorem e50_162 : Dc kC55 162 (.iload_n 3) 1 := by decide +kernel
theorem e50_163 : Dc kC55 163 .castore 1 := by decide +kernel
theorem e50_164 : Dc kC55 164 .dup 1 := by decide +kernel
theorem e50_165 : Dc kC55 165 (.iconst 2) 1 := by decide +kernel
theorem e50_166 : Dc kC55 166 (.bipush 47) 2 := by decide +kernel
theorem e50_168 : Dc kC55 168 .castore 1 := by decide +kernel
theorem e50_169 : Dc kC55 169 .dup 1 := by decide +kernel
theorem e50_170 : Dc kC55 170 (.iconst 3) 1 := by decide +kernel
theorem e50_171 : Dc kC55 171 (.iload 4) 2 := by decide +kernel
theorem e50_173 : Dc kC55 173 .castore 1 := by decide +kernel
theorem e50_174 : Dc kC55 174 .dup 1 := by decide +kernel
theorem e50_175 : Dc kC55 175 (.iconst 4) 1 := by decide +kernel
theorem e50_176 : Dc kC55 176 (.bipush 47) 2 := by decide +kernel
theorem e50_178 : Dc kC55 178 .castore 1 := by decide +kernel
theorem e50_179 : Dc kC55 179 .dup 1 := by decide +kernel
theorem e50_180 : Dc kC55 180 (.iconst 5) 1 := by decide +kernel
theorem e50_181 : Dc kC55 181 (.bipush 42) 2 := by decide +kernel
theorem e50_183 : Dc kC55 183 .castore 1 := by decide +kernel
theorem e50_184 : Dc kC55 184 (.invokespecial 51) 3 := by decide +kernel
theorem e50_187 : Dc kC55 187 .areturn 1 := by decide +kernel
def Q_spell (Z : State) (zC : Int32) (vF : Value) (kd : Int32) (pl ql : Nat) (p1 p2 : Int32) (h0 : Heap) (v : Option Value) (h : Heap) (L : List Loc) : Prop := ∃ (r : Addr), ∃ (ct : Addr), ∃ (kc : ClassId), ∃ (ps : List Int32), ∃ (sn : Nat), v = some (.ref r) ∧ Fr Z.heap.size L ∧ Keep h0 h [] ∧ Exa Z h r sT0 ∧ Fld Z h r sT0 "coder" "B" (iv 0) ∧ Fld Z h r sT0 "value" "[B" (.ref ct) ∧ Arv Z h ct kc .byte (Int32.ofNat sn) (ps.map lo8V) (.int 0) ∧ (ps.length = sn) ∧ (sn ≤ 6) ∧ (ALL ps) ∧ (SPL kd pl ql p1 p2 ps)
theorem rm_spell (l : Launch) (Z : State) (a0 : Array Value) (hw : HW a0 Z) (zC : Int32) (vF : Value) (G : GB l a0 Z zC vF) (kd : Int32) (pl ql : Nat) (p1 p2 : Int32) (h0 : Heap) (O0 : Old Z Z.heap.size h0) (H1 : (¬ (p1 < (0 : Int32)))) (J1 : (¬ ((255 : Int32) < p1))) (H2 : (¬ (p2 < (0 : Int32)))) (J2 : (¬ ((255 : Int32) < p2))) (A1 : (1 ≤ pl)) (A2 : (pl ≤ 4)) (A3 : (ql = 0 ∨ ql = 2 ∨ ql = 4)) :
    ConS l Z EL (⟨sT3, "spell", "(IIICC)Ljava/lang/String;"⟩ : MethodName) kC55 5 (some (.object sT0)) ({ frames := 4, cells := 3, slots := 16, locals := 66 } : Room) #[(.int kd), (.int (Int32.ofNat pl)), (.int (Int32.ofNat ql)), (.int p1), (.int p2)] h0 [] (Q_spell Z zC vF kd pl ql p1 p2 h0) := by
 obtain ⟨SC, PC, rF, SF⟩ := id G
 refine ConS.intro (plainFor_of_name pn11) ?_
 intro p e s m below meth c T0 v0 X0 hx Y hml hown0 hnm hret hlk hZ0 e0 hS0 C0 hsl0
 have N0 := Fr.nil Z.heap.size
 refine castGo (g' := mkF m 0 #[vi kd, vi (Int32.ofNat pl), vi (Int32.ofNat ql), vi p1, vi p2] []) (by first | rfl | (simp [entryFrame, mkF, argsToLocals, Value.category]; done)) ?_
 show Go _ _ _ _ (T0.setTop (mkF m 0 #[vi kd, vi (Int32.ofNat pl), vi (Int32.ofNat ql), vi p1, vi p2] []))
 refine iL X0 hx (hb Y e50_0) (q := 1) rfl rfl ?_
 by_cases hc21 : kd = (0 : Int32)
 ·refine ifN X0 hx (hb Y e50_1) (q := 4) rfl ((if0 _ _).trans (teq hc21).2) ?_
  refine g_ldc X0 hx hZ0 hown0 (wd8 hw) (own_wS hw) hS0 (Nat.zero_le _) (own_EW hw) (by simp [EL]) C0.1 (vs := [(iv 42)]) (z := 1) ⟨by decide, by decide⟩ (by decide) (by decide) (n := 4) (by decide) (by decide) (by decide) (by decide) e0 (hb Y e50_4) (q := 6) rfl ?_
  intro b22 T22 h22 kk22 d22 k22 X22 e22 E22 hS22 hk22 hZ22 hown22 A22 Fc22 Fv22 V22 lta22 ltb22 R22 sn22
  have K23 : Keep h0 h22 [] := (Keep.refl h0 []).ext E22
  have f24 := C0.trans R22
  refine endC X22 hlk hS22 (by rw [e22]; exact (Nat.le_trans hk22 (Nat.le_refl _))) hZ22 (own_EW hw) (by rw [e22]; exact f24) (fun h => by rw [hret] at h; cases h) (lastA X22 hx hret rfl rfl rfl (hb Y e50_6)) ?_ (by decide) (by decide)
  rw [e22]
  refine ⟨b22, d22, k22, ([(42 : Int32)] : List Int32), 1, ?_, ?_, ?_, ?_, ?_, ?_, ?_, ?_, ?_, ?_, ?_⟩
  ·exact rfl
  ·exact N0
  ·exact K23
  ·exact A22
  ·exact Fc22
  ·exact Fv22
  ·exact V22
  ·exact rfl
  ·exact (by decide)
  ·exact (alS (by decide) al0)
  ·exact (Or.inl ⟨hc21, rfl⟩)
 ·refine ifY X0 hx (hb Y e50_1) (q := 7) (by decide) (by decide) ((if0 _ _).trans (feq hc21).2) ?_
  refine iL X0 hx (hb Y e50_7) (q := 8) rfl rfl ?_
  refine cI X0 hx (hb Y e50_8) (q := 9) rfl (z := 1) rfl ?_
  by_cases hc25 : kd = (1 : Int32)
  ·refine icN X0 hx (hb Y e50_9) (q := 12) rfl (teq hc25).2 ?_
   rcases (by omega : pl = 1 ∨ pl = 2 ∨ pl = 3 ∨ pl = 4) with rfl | rfl | rfl | rfl
   ·show Go _ _ _ _ (T0.setTop (mkF m 12 #[vi kd, vi 1, vi (Int32.ofNat ql), vi p1, vi p2] []))
    refine iL X0 hx (hb Y e50_12) (q := 13) rfl rfl ?_
    refine cI X0 hx (hb Y e50_13) (q := 14) rfl (z := 1) rfl ?_
    refine icN X0 hx (hb Y e50_14) (q := 17) rfl (by decide) ?_
    refine g_ldc X0 hx hZ0 hown0 (wd305 hw) (own_wS hw) hS0 (Nat.zero_le _) (own_EW hw) (by simp [EL]) C0.1 (vs := [(iv 47)]) (z := 1) ⟨by decide, by decide⟩ (by decide) (by decide) (n := 4) (by decide) (by decide) (by decide) (by decide) e0 (hb Y e50_17) (q := 19) rfl ?_
    intro b26 T26 h26 kk26 d26 k26 X26 e26 E26 hS26 hk26 hZ26 hown26 A26 Fc26 Fv26 V26 lta26 ltb26 R26 sn26
    have K27 : Keep h0 h26 [] := (Keep.refl h0 []).ext E26
    have f28 := C0.trans R26
    refine endC X26 hlk hS26 (by rw [e26]; exact (Nat.le_trans hk26 (Nat.le_refl _))) hZ26 (own_EW hw) (by rw [e26]; exact f28) (fun h => by rw [hret] at h; cases h) (lastA X26 hx hret rfl rfl rfl (hb Y e50_19)) ?_ (by decide) (by decide)
    rw [e26]
    refine ⟨b26, d26, k26, ([(47 : Int32)] : List Int32), 1, ?_, ?_, ?_, ?_, ?_, ?_, ?_, ?_, ?_, ?_, ?_⟩
    ·exact rfl
    ·exact N0
    ·exact K27
    ·exact A26
    ·exact Fc26
    ·exact Fv26
    ·exact V26
    ·exact rfl
    ·exact (by decide)
    ·exact (alS (by decide) al0)
    ·exact (Or.inr (Or.inl ⟨hc21, hc25, rfl⟩))
   ·show Go _ _ _ _ (T0.setTop (mkF m 12 #[vi kd, vi 2, vi (Int32.ofNat ql), vi p1, vi p2] []))
    refine iL X0 hx (hb Y e50_12) (q := 13) rfl rfl ?_
    refine cI X0 hx (hb Y e50_13) (q := 14) rfl (z := 1) rfl ?_
    refine icY X0 hx (hb Y e50_14) (q := 20) (by decide) (by decide) (by decide) ?_
    refine iL X0 hx (hb Y e50_20) (q := 21) rfl rfl ?_
    refine cI X0 hx (hb Y e50_21) (q := 22) rfl (z := 2) rfl ?_
    refine icN X0 hx (hb Y e50_22) (q := 25) rfl (by decide) ?_
    refine g_new X0 hx hZ0 hown0 (wd138 hw) (wd10 hw) (wd9 hw) (by decide) (by decide) e0 (hb Y e50_25) (q := 28) rfl ?_
    intro T29 h29 b29 g29 X29 e29 E29 A29 D29
    have sf30 : Safe Z EL v0 h0 b29 := Safe.new (Nat.le_of_eq g29.symm)
    have F29_12 := D29 (Or.inr (wd12 hw)) (ty := (.array .byte)) (by decide)
    have F29_13 := D29 (Or.inr (wd13 hw)) (ty := .byte) (by decide)
    refine g_dup X29 hx (hb Y e50_28) (q := 29) rfl rfl ?_
    refine cI X29 hx (hb Y e50_29) (q := 30) rfl (z := 2) rfl ?_
    refine g_newA X29 hx hZ0 (aty := .char) (wd4 hw) (by decide) (n := 2) (by decide) (by decide) (by decide) (by decide) e29 (hb Y e50_30) (q := 32) rfl ?_
    intro T31 h31 k31 b31 g31 X31 e31 E31 V31
    have Va31 : Arv Z h31 b31 k31 .char (2 : Int32) [(iv 0), (iv 0)] (.int 0) := V31
    refine g_dup X31 hx (hb Y e50_32) (q := 33) rfl rfl ?_
    refine cI X31 hx (hb Y e50_33) (q := 34) rfl (z := 0) rfl ?_
    refine bI X31 hx (hb Y e50_34) (q := 36) rfl (z := 47) rfl ?_
    have f34 := O0.ext E29
    have gz33 : Z.heap.size ≤ b31 := Nat.le_trans f34.2.1 (Nat.le_of_eq g31.symm)
    have f35 := C0.trans (CHr.ext E29 C0.1)
    have f36 := f35.trans (CHr.ext E31 f35.1)
    refine g_stC X31 hx hZ0 Va31 (i := 0) (by decide) (by decide) (by decide) (Nat.le_of_ble_eq_true rfl) (y := (47 : Int32)) (by decide) e31 (hb Y e50_36) (q := 37) rfl ?_
    intro T32 h32 X32 e32 W32 V32
    have N32 := Fr.snoc X32 N0 gz33
    have Va32 : Arv Z h32 b31 k31 .char (2 : Int32) [(iv 47), (iv 0)] (.int 0) := V32
    refine g_dup X32 hx (hb Y e50_37) (q := 38) rfl rfl ?_
    refine cI X32 hx (hb Y e50_38) (q := 39) rfl (z := 1) rfl ?_
    refine iL X32 hx (hb Y e50_39) (q := 40) rfl rfl ?_
    have f38 := f36.trans (CHr.wr W32 (Safe.arv hZ0.alike Va31 (by decide)) f36.1)
    refine g_stC X32 hx hZ0 Va32 (i := 1) (by decide) (by decide) (by decide) (Nat.le_of_ble_eq_true rfl) (y := p1) (nar_of255 H1 J1) e32 (hb Y e50_40) (q := 41) rfl ?_
    intro T37 h37 X37 e37 W37 V37
    have N37 := Fr.snoc X37 N32 gz33
    have Va37 : Arv Z h37 b31 k31 .char (2 : Int32) [(iv 47), (.int p1)] (.int 0) := V37
    have f40 := f34.ext E31
    have f41 := f40.wr W32 gz33
    have f42 := f41.wr W37 gz33
    have gz43 : Z.heap.size ≤ b29 := Nat.le_trans O0.2.1 (Nat.le_of_eq g29.symm)
    have f44 := A29.ext E31
    have f45 := f44.wr W32
    have f46 := f45.wr W37
    have f47 := F29_12.ext E31
    have ne48 : b29 ≠ b31 := (Nat.ne_of_lt (Nat.lt_of_lt_of_le (Nat.lt_of_lt_of_le A29.lt (Nat.le_refl _)) (Nat.le_of_eq g31.symm)))
    have f49 := f47.other W32 (Or.inl ne48)
    have f50 := f49.other W37 (Or.inl ne48)
    have f51 := F29_13.ext E31
    have f52 := f51.other W32 (Or.inl ne48)
    have f53 := f52.other W37 (Or.inl ne48)
    refine g_sp X37 hx hZ0 hown0 (wd139 hw) (wd140 hw) (wd141 hw) rfl (by decide) e37 (StrChars.Road.backV (s := (s.setVm v0)) (W := 1) hZ0 (own_wStr hw) (kI := 4) (wd10 hw) (cs := ([(47 : Int32), p1] : List Int32)) (bs := (([(47 : Int32), p1] : List Int32).map (fun c => c.toInt8.toInt32))) (n := 2) gz43 f42.2.1 f46 f50 f53 Va37 (SC.ext f42.2) PC rfl rfl (by decide) (by decide) (alS (by decide) (alS ⟨H1, J1⟩ al0)) rfl (by decide) (by decide)) (a := b29) (argsL := [.ref b31]) (W := 1) (nk := 1) (ns := 2) (Qc := StrChars.Road.QV Z b29 (2 : Int32) (([(47 : Int32), p1] : List Int32).map (fun c => c.toInt8.toInt32)) h37 Z.heap.size) (by rw [hml]; rfl) (lenOf pd36 rfl) rfl (Nat.le_of_eq rfl) (hb Y e50_41) (q := 44) rfl (by decide) (by decide) ?_
    intro v39 T39 L39 X39 Q39
    obtain ⟨rfl, Nq39, K39q, E39q, C39q, t39, kb39, tz39, tg39, tn39, Fv39, Va39⟩ := Q39
    have N39 := Fr.app N37 Nq39
    have Vb39 : Arv Z T39.heap t39 kb39 .byte (2 : Int32) [(iv 47), (.int (StrChars.lo8 p1))] (.int 0) := Va39
    show Go _ _ _ _ (T39.setTop (mkF m 44 _ [(.ref b29)]))
    have K54 : Keep h0 h29 [] := (Keep.refl h0 []).ext E29
    have K55 : Keep h0 h31 [] := K54.ext E31
    have le57 := E29.1
    have gh56 : h0.size ≤ b31 := Nat.le_trans le57 (Nat.le_of_eq g31.symm)
    have K58 : Keep h0 h32 [] := K55.wr W32 (Or.inr gh56)
    have K59 : Keep h0 h37 [] := K58.wr W37 (Or.inr gh56)
    have gh60 : h0.size ≤ b29 := Nat.le_trans (Nat.le_refl _) (Nat.le_of_eq g29.symm)
    have K61 : Keep h0 T39.heap [] := K59.trans K39q (allS (Or.inr gh60) all0)
    have f62 := f38.trans (CHr.wr W37 (Safe.arv hZ0.alike Va32 (by decide)) f38.1)
    have f63 := Safe.ext E29 C0.1 sf30
    have f64 := Safe.ext E31 f35.1 f63
    have f65 := Safe.wr W32 (Safe.arv hZ0.alike Va31 (by decide)) f36.1 f64
    have f66 := Safe.wr W37 (Safe.arv hZ0.alike Va32 (by decide)) f38.1 f65
    have f67 := f62.trans (CHr.keep K39q (sfS f66 sf0) f62.1)
    refine endC X39 hlk hS0 (Nat.zero_le _) hZ0 (own_EW hw) f67 (fun h => by rw [hret] at h; cases h) (lastA X39 hx hret rfl rfl rfl (hb Y e50_44)) ?_ (by decide) (by decide)
    refine ⟨b29, t39, kb39, ([(47 : Int32), p1] : List Int32), 2, ?_, ?_, ?_, ?_, ?_, ?_, ?_, ?_, ?_, ?_, ?_⟩
    ·exact rfl
    ·exact N39
    ·exact K61
    ·exact E39q
    ·exact C39q
    ·exact Fv39
    ·exact Vb39
    ·exact rfl
    ·exact (by decide)
    ·exact (alS (by decide) (alS ⟨H1, J1⟩ al0))
    ·exact (Or.inr (Or.inl ⟨hc21, hc25, rfl⟩))
   ·show Go _ _ _ _ (T0.setTop (mkF m 12 #[vi kd, vi 3, vi (Int32.ofNat ql), vi p1, vi p2] []))
    refine iL X0 hx (hb Y e50_12) (q := 13) rfl rfl ?_
    refine cI X0 hx (hb Y e50_13) (q := 14) rfl (z := 1) rfl ?_
    refine icY X0 hx (hb Y e50_14) (q := 20) (by decide) (by decide) (by decide) ?_
    refine iL X0 hx (hb Y e50_20) (q := 21) rfl rfl ?_
    refine cI X0 hx (hb Y e50_21) (q := 22) rfl (z := 2) rfl ?_
    refine icY X0 hx (hb Y e50_22) (q := 45) (by decide) (by decide) (by decide) ?_
    refine iL X0 hx (hb Y e50_45) (q := 46) rfl rfl ?_
    refine cI X0 hx (hb Y e50_46) (q := 47) rfl (z := 3) rfl ?_
    refine icN X0 hx (hb Y e50_47) (q := 50) rfl (by decide) ?_
    refine g_new X0 hx hZ0 hown0 (wd138 hw) (wd10 hw) (wd9 hw) (by decide) (by decide) e0 (hb Y e50_50) (q := 53) rfl ?_
    intro T68 h68 b68 g68 X68 e68 E68 A68 D68
    have sf69 : Safe Z EL v0 h0 b68 := Safe.new (Nat.le_of_eq g68.symm)
    have F68_12 := D68 (Or.inr (wd12 hw)) (ty := (.array .byte)) (by decide)
    have F68_13 := D68 (Or.inr (wd13 hw)) (ty := .byte) (by decide)
    refine g_dup X68 hx (hb Y e50_53) (q := 54) rfl rfl ?_
    refine cI X68 hx (hb Y e50_54) (q := 55) rfl (z := 3) rfl ?_
    refine g_newA X68 hx hZ0 (aty := .char) (wd4 hw) (by decide) (n := 3) (by decide) (by decide) (by decide) (by decide) e68 (hb Y e50_55) (q := 57) rfl ?_
    intro T70 h70 k70 b70 g70 X70 e70 E70 V70
    have Va70 : Arv Z h70 b70 k70 .char (3 : Int32) [(iv 0), (iv 0), (iv 0)] (.int 0) := V70
    refine g_dup X70 hx (hb Y e50_57) (q := 58) rfl rfl ?_
    refine cI X70 hx (hb Y e50_58) (q := 59) rfl (z := 0) rfl ?_
    refine bI X70 hx (hb Y e50_59) (q := 61) rfl (z := 47) rfl ?_
    have f73 := O0.ext E68
    have gz72 : Z.heap.size ≤ b70 := Nat.le_trans f73.2.1 (Nat.le_of_eq g70.symm)
    have f74 := C0.trans (CHr.ext E68 C0.1)
    have f75 := f74.trans (CHr.ext E70 f74.1)
    refine g_stC X70 hx hZ0 Va70 (i := 0) (by decide) (by decide) (by decide) (Nat.le_of_ble_eq_true rfl) (y := (47 : Int32)) (by decide) e70 (hb Y e50_61) (q := 62) rfl ?_
    intro T71 h71 X71 e71 W71 V71
    have N71 := Fr.snoc X71 N0 gz72
    have Va71 : Arv Z h71 b70 k70 .char (3 : Int32) [(iv 47), (iv 0), (iv 0)] (.int 0) := V71
    refine g_dup X71 hx (hb Y e50_62) (q := 63) rfl rfl ?_
    refine cI X71 hx (hb Y e50_63) (q := 64) rfl (z := 1) rfl ?_
    refine iL X71 hx (hb Y e50_64) (q := 65) rfl rfl ?_
    have f77 := f75.trans (CHr.wr W71 (Safe.arv hZ0.alike Va70 (by decide)) f75.1)
    refine g_stC X71 hx hZ0 Va71 (i := 1) (by decide) (by decide) (by decide) (Nat.le_of_ble_eq_true rfl) (y := p1) (nar_of255 H1 J1) e71 (hb Y e50_65) (q := 66) rfl ?_
    intro T76 h76 X76 e76 W76 V76
    have N76 := Fr.snoc X76 N71 gz72
    have Va76 : Arv Z h76 b70 k70 .char (3 : Int32) [(iv 47), (.int p1), (iv 0)] (.int 0) := V76
    refine g_dup X76 hx (hb Y e50_66) (q := 67) rfl rfl ?_
    refine cI X76 hx (hb Y e50_67) (q := 68) rfl (z := 2) rfl ?_
    refine bI X76 hx (hb Y e50_68) (q := 70) rfl (z := 47) rfl ?_
    have f79 := f77.trans (CHr.wr W76 (Safe.arv hZ0.alike Va71 (by decide)) f77.1)
    refine g_stC X76 hx hZ0 Va76 (i := 2) (by decide) (by decide) (by decide) (Nat.le_of_ble_eq_true rfl) (y := (47 : Int32)) (by decide) e76 (hb Y e50_70) (q := 71) rfl ?_
    intro T78 h78 X78 e78 W78 V78
    have N78 := Fr.snoc X78 N76 gz72
    have Va78 : Arv Z h78 b70 k70 .char (3 : Int32) [(iv 47), (.int p1), (iv 47)] (.int 0) := V78
    have f81 := f73.ext E70
    have f82 := f81.wr W71 gz72
    have f83 := f82.wr W76 gz72
    have f84 := f83.wr W78 gz72
    have gz85 : Z.heap.size ≤ b68 := Nat.le_trans O0.2.1 (Nat.le_of_eq g68.symm)
    have f86 := A68.ext E70
    have f87 := f86.wr W71
    have f88 := f87.wr W76
    have f89 := f88.wr W78
    have f90 := F68_12.ext E70
    have ne91 : b68 ≠ b70 := (Nat.ne_of_lt (Nat.lt_of_lt_of_le (Nat.lt_of_lt_of_le A68.lt (Nat.le_refl _)) (Nat.le_of_eq g70.symm)))
    have f92 := f90.other W71 (Or.inl ne91)
    have f93 := f92.other W76 (Or.inl ne91)
    have f94 := f93.other W78 (Or.inl ne91)
    have f95 := F68_13.ext E70
    have f96 := f95.other W71 (Or.inl ne91)
    have f97 := f96.other W76 (Or.inl ne91)
    have f98 := f97.other W78 (Or.inl ne91)
    refine g_sp X78 hx hZ0 hown0 (wd139 hw) (wd140 hw) (wd141 hw) rfl (by decide) e78 (StrChars.Road.backV (s := (s.setVm v0)) (W := 1) hZ0 (own_wStr hw) (kI := 4) (wd10 hw) (cs := ([(47 : Int32), p1, (47 : Int32)] : List Int32)) (bs := (([(47 : Int32), p1, (47 : Int32)] : List Int32).map (fun c => c.toInt8.toInt32))) (n := 3) gz85 f84.2.1 f89 f94 f98 Va78 (SC.ext f84.2) PC rfl rfl (by decide) (by decide) (alS (by decide) (alS ⟨H1, J1⟩ (alS (by decide) al0))) rfl (by decide) (by decide)) (a := b68) (argsL := [.ref b70]) (W := 1) (nk := 1) (ns := 3) (Qc := StrChars.Road.QV Z b68 (3 : Int32) (([(47 : Int32), p1, (47 : Int32)] : List Int32).map (fun c => c.toInt8.toInt32)) h78 Z.heap.size) (by rw [hml]; rfl) (lenOf pd36 rfl) rfl (Nat.le_of_eq rfl) (hb Y e50_71) (q := 74) rfl (by decide) (by decide) ?_
    intro v80 T80 L80 X80 Q80
    obtain ⟨rfl, Nq80, K80q, E80q, C80q, t80, kb80, tz80, tg80, tn80, Fv80, Va80⟩ := Q80
    have N80 := Fr.app N78 Nq80
    have Vb80 : Arv Z T80.heap t80 kb80 .byte (3 : Int32) [(iv 47), (.int (StrChars.lo8 p1)), (iv 47)] (.int 0) := Va80
    show Go _ _ _ _ (T80.setTop (mkF m 74 _ [(.ref b68)]))
    have K99 : Keep h0 h68 [] := (Keep.refl h0 []).ext E68
    have K100 : Keep h0 h70 [] := K99.ext E70
    have le102 := E68.1
    have gh101 : h0.size ≤ b70 := Nat.le_trans le102 (Nat.le_of_eq g70.symm)
    have K103 : Keep h0 h71 [] := K100.wr W71 (Or.inr gh101)
    have K104 : Keep h0 h76 [] := K103.wr W76 (Or.inr gh101)
    have K105 : Keep h0 h78 [] := K104.wr W78 (Or.inr gh101)
    have gh106 : h0.size ≤ b68 := Nat.le_trans (Nat.le_refl _) (Nat.le_of_eq g68.symm)
    have K107 : Keep h0 T80.heap [] := K105.trans K80q (allS (Or.inr gh106) all0)
    have f108 := f79.trans (CHr.wr W78 (Safe.arv hZ0.alike Va76 (by decide)) f79.1)
    have f109 := Safe.ext E68 C0.1 sf69
    have f110 := Safe.ext E70 f74.1 f109
    have f111 := Safe.wr W71 (Safe.arv hZ0.alike Va70 (by decide)) f75.1 f110
    have f112 := Safe.wr W76 (Safe.arv hZ0.alike Va71 (by decide)) f77.1 f111
    have f113 := Safe.wr W78 (Safe.arv hZ0.alike Va76 (by decide)) f79.1 f112
    have f114 := f108.trans (CHr.keep K80q (sfS f113 sf0) f108.1)
    refine endC X80 hlk hS0 (Nat.zero_le _) hZ0 (own_EW hw) f114 (fun h => by rw [hret] at h; cases h) (lastA X80 hx hret rfl rfl rfl (hb Y e50_74)) ?_ (by decide) (by decide)
    refine ⟨b68, t80, kb80, ([(47 : Int32), p1, (47 : Int32)] : List Int32), 3, ?_, ?_, ?_, ?_, ?_, ?_, ?_, ?_, ?_, ?_, ?_⟩
    ·exact rfl
    ·exact N80
    ·exact K107
    ·exact E80q
    ·exact C80q
    ·exact Fv80
    ·exact Vb80
    ·exact rfl
    ·exact (by decide)
    ·exact (alS (by decide) (alS ⟨H1, J1⟩ (alS (by decide) al0)))
    ·exact (Or.inr (Or.inl ⟨hc21, hc25, rfl⟩))
   ·show Go _ _ _ _ (T0.setTop (mkF m 12 #[vi kd, vi 4, vi (Int32.ofNat ql), vi p1, vi p2] []))
    refine iL X0 hx (hb Y e50_12) (q := 13) rfl rfl ?_
    refine cI X0 hx (hb Y e50_13) (q := 14) rfl (z := 1) rfl ?_
    refine icY X0 hx (hb Y e50_14) (q := 20) (by decide) (by decide) (by decide) ?_
    refine iL X0 hx (hb Y e50_20) (q := 21) rfl rfl ?_
    refine cI X0 hx (hb Y e50_21) (q := 22) rfl (z := 2) rfl ?_
    refine icY X0 hx (hb Y e50_22) (q := 45) (by decide) (by decide) (by decide) ?_
    refine iL X0 hx (hb Y e50_45) (q := 46) rfl rfl ?_
    refine cI X0 hx (hb Y e50_46) (q := 47) rfl (z := 3) rfl ?_
    refine icY X0 hx (hb Y e50_47) (q := 75) (by decide) (by decide) (by decide) ?_
    refine g_new X0 hx hZ0 hown0 (wd138 hw) (wd10 hw) (wd9 hw) (by decide) (by decide) e0 (hb Y e50_75) (q := 78) rfl ?_
    intro T115 h115 b115 g115 X115 e115 E115 A115 D115
    have sf116 : Safe Z EL v0 h0 b115 := Safe.new (Nat.le_of_eq g115.symm)
    have F115_12 := D115 (Or.inr (wd12 hw)) (ty := (.array .byte)) (by decide)
    have F115_13 := D115 (Or.inr (wd13 hw)) (ty := .byte) (by decide)
    refine g_dup X115 hx (hb Y e50_78) (q := 79) rfl rfl ?_
    refine cI X115 hx (hb Y e50_79) (q := 80) rfl (z := 4) rfl ?_
    refine g_newA X115 hx hZ0 (aty := .char) (wd4 hw) (by decide) (n := 4) (by decide) (by decide) (by decide) (by decide) e115 (hb Y e50_80) (q := 82) rfl ?_
    intro T117 h117 k117 b117 g117 X117 e117 E117 V117
    have Va117 : Arv Z h117 b117 k117 .char (4 : Int32) [(iv 0), (iv 0), (iv 0), (iv 0)] (.int 0) := V117
    refine g_dup X117 hx (hb Y e50_82) (q := 83) rfl rfl ?_
    refine cI X117 hx (hb Y e50_83) (q := 84) rfl (z := 0) rfl ?_
    refine bI X117 hx (hb Y e50_84) (q := 86) rfl (z := 47) rfl ?_
    have f120 := O0.ext E115
    have gz119 : Z.heap.size ≤ b117 := Nat.le_trans f120.2.1 (Nat.le_of_eq g117.symm)
    have f121 := C0.trans (CHr.ext E115 C0.1)
    have f122 := f121.trans (CHr.ext E117 f121.1)
    refine g_stC X117 hx hZ0 Va117 (i := 0) (by decide) (by decide) (by decide) (Nat.le_of_ble_eq_true rfl) (y := (47 : Int32)) (by decide) e117 (hb Y e50_86) (q := 87) rfl ?_
    intro T118 h118 X118 e118 W118 V118
    have N118 := Fr.snoc X118 N0 gz119
    have Va118 : Arv Z h118 b117 k117 .char (4 : Int32) [(iv 47), (iv 0), (iv 0), (iv 0)] (.int 0) := V118
    refine g_dup X118 hx (hb Y e50_87) (q := 88) rfl rfl ?_
    refine cI X118 hx (hb Y e50_88) (q := 89) rfl (z := 1) rfl ?_
    refine iL X118 hx (hb Y e50_89) (q := 90) rfl rfl ?_
    have f124 := f122.trans (CHr.wr W118 (Safe.arv hZ0.alike Va117 (by decide)) f122.1)
    refine g_stC X118 hx hZ0 Va118 (i := 1) (by decide) (by decide) (by decide) (Nat.le_of_ble_eq_true rfl) (y := p1) (nar_of255 H1 J1) e118 (hb Y e50_90) (q := 91) rfl ?_
    intro T123 h123 X123 e123 W123 V123
    have N123 := Fr.snoc X123 N118 gz119
    have Va123 : Arv Z h123 b117 k117 .char (4 : Int32) [(iv 47), (.int p1), (iv 0), (iv 0)] (.int 0) := V123
    refine g_dup X123 hx (hb Y e50_91) (q := 92) rfl rfl ?_
    refine cI X123 hx (hb Y e50_92) (q := 93) rfl (z := 2) rfl ?_
    refine bI X123 hx (hb Y e50_93) (q := 95) rfl (z := 47) rfl ?_
    have f126 := f124.trans (CHr.wr W123 (Safe.arv hZ0.alike Va118 (by decide)) f124.1)
    refine g_stC X123 hx hZ0 Va123 (i := 2) (by decide) (by decide) (by decide) (Nat.le_of_ble_eq_true rfl) (y := (47 : Int32)) (by decide) e123 (hb Y e50_95) (q := 96) rfl ?_
    intro T125 h125 X125 e125 W125 V125
    have N125 := Fr.snoc X125 N123 gz119
    have Va125 : Arv Z h125 b117 k117 .char (4 : Int32) [(iv 47), (.int p1), (iv 47), (iv 0)] (.int 0) := V125
    refine g_dup X125 hx (hb Y e50_96) (q := 97) rfl rfl ?_
    refine cI X125 hx (hb Y e50_97) (q := 98) rfl (z := 3) rfl ?_
    refine iLw X125 hx (hb Y e50_98) (q := 100) rfl rfl ?_
    have f128 := f126.trans (CHr.wr W125 (Safe.arv hZ0.alike Va123 (by decide)) f126.1)
    refine g_stC X125 hx hZ0 Va125 (i := 3) (by decide) (by decide) (by decide) (Nat.le_of_ble_eq_true rfl) (y := p2) (nar_of255 H2 J2) e125 (hb Y e50_100) (q := 101) rfl ?_
    intro T127 h127 X127 e127 W127 V127
    have N127 := Fr.snoc X127 N125 gz119
    have Va127 : Arv Z h127 b117 k117 .char (4 : Int32) [(iv 47), (.int p1), (iv 47), (.int p2)] (.int 0) := V127
    have f130 := f120.ext E117
    have f131 := f130.wr W118 gz119
    have f132 := f131.wr W123 gz119
    have f133 := f132.wr W125 gz119
    have f134 := f133.wr W127 gz119
    have gz135 : Z.heap.size ≤ b115 := Nat.le_trans O0.2.1 (Nat.le_of_eq g115.symm)
    have K136 := (Keep.refl h115 []).ext E117
    have K137 := K136.wr W118 (Or.inr (Nat.le_trans (Nat.le_refl _) (Nat.le_of_eq g117.symm)))
    have K138 := K137.wr W123 (Or.inr (Nat.le_trans (Nat.le_refl _) (Nat.le_of_eq g117.symm)))
    have K139 := K138.wr W125 (Or.inr (Nat.le_trans (Nat.le_refl _) (Nat.le_of_eq g117.symm)))
    have K140 := K139.wr W127 (Or.inr (Nat.le_trans (Nat.le_refl _) (Nat.le_of_eq g117.symm)))
    have f141 := A115.keep K140
    have f142 := F115_12.keep K140 nin0
    have f143 := F115_13.keep K140 nin0
    refine g_sp X127 hx hZ0 hown0 (wd139 hw) (wd140 hw) (wd141 hw) rfl (by decide) e127 (StrChars.Road.backV (s := (s.setVm v0)) (W := 1) hZ0 (own_wStr hw) (kI := 4) (wd10 hw) (cs := ([(47 : Int32), p1, (47 : Int32), p2] : List Int32)) (bs := (([(47 : Int32), p1, (47 : Int32), p2] : List Int32).map (fun c => c.toInt8.toInt32))) (n := 4) gz135 f134.2.1 f141 f142 f143 Va127 (SC.ext f134.2) PC rfl rfl (by decide) (by decide) (alS (by decide) (alS ⟨H1, J1⟩ (alS (by decide) (alS ⟨H2, J2⟩ al0)))) rfl (by decide) (by decide)) (a := b115) (argsL := [.ref b117]) (W := 1) (nk := 1) (ns := 4) (Qc := StrChars.Road.QV Z b115 (4 : Int32) (([(47 : Int32), p1, (47 : Int32), p2] : List Int32).map (fun c => c.toInt8.toInt32)) h127 Z.heap.size) (by rw [hml]; rfl) (lenOf pd36 rfl) rfl (Nat.le_of_eq rfl) (hb Y e50_101) (q := 104) rfl (by decide) (by decide) ?_
    intro v129 T129 L129 X129 Q129
    obtain ⟨rfl, Nq129, K129q, E129q, C129q, t129, kb129, tz129, tg129, tn129, Fv129, Va129⟩ := Q129
    have N129 := Fr.app N127 Nq129
    have Vb129 : Arv Z T129.heap t129 kb129 .byte (4 : Int32) [(iv 47), (.int (StrChars.lo8 p1)), (iv 47), (.int (StrChars.lo8 p2))] (.int 0) := Va129
    show Go _ _ _ _ (T129.setTop (mkF m 104 _ [(.ref b115)]))
    have K144 : Keep h0 h115 [] := (Keep.refl h0 []).ext E115
    have K145 : Keep h0 h117 [] := K144.ext E117
    have le147 := E115.1
    have gh146 : h0.size ≤ b117 := Nat.le_trans le147 (Nat.le_of_eq g117.symm)
    have K148 : Keep h0 h118 [] := K145.wr W118 (Or.inr gh146)
    have K149 : Keep h0 h123 [] := K148.wr W123 (Or.inr gh146)
    have K150 : Keep h0 h125 [] := K149.wr W125 (Or.inr gh146)
    have K151 : Keep h0 h127 [] := K150.wr W127 (Or.inr gh146)
    have gh152 : h0.size ≤ b115 := Nat.le_trans (Nat.le_refl _) (Nat.le_of_eq g115.symm)
    have K153 : Keep h0 T129.heap [] := K151.trans K129q (allS (Or.inr gh152) all0)
    have f154 := f128.trans (CHr.wr W127 (Safe.arv hZ0.alike Va125 (by decide)) f128.1)
    have f155 := Safe.ext E115 C0.1 sf116
    have f156 := Safe.ext E117 f121.1 f155
    have f157 := Safe.wr W118 (Safe.arv hZ0.alike Va117 (by decide)) f122.1 f156
    have f158 := Safe.wr W123 (Safe.arv hZ0.alike Va118 (by decide)) f124.1 f157
    have f159 := Safe.wr W125 (Safe.arv hZ0.alike Va123 (by decide)) f126.1 f158
    have f160 := Safe.wr W127 (Safe.arv hZ0.alike Va125 (by decide)) f128.1 f159
    have f161 := f154.trans (CHr.keep K129q (sfS f160 sf0) f154.1)
    refine endC X129 hlk hS0 (Nat.zero_le _) hZ0 (own_EW hw) f161 (fun h => by rw [hret] at h; cases h) (lastA X129 hx hret rfl rfl rfl (hb Y e50_104)) ?_ (by decide) (by decide)
    refine ⟨b115, t129, kb129, ([(47 : Int32), p1, (47 : Int32), p2] : List Int32), 4, ?_, ?_, ?_, ?_, ?_, ?_, ?_, ?_, ?_, ?_, ?_⟩
    ·exact rfl
    ·exact N129
    ·exact K153
    ·exact E129q
    ·exact C129q
    ·exact Fv129
    ·exact Vb129
    ·exact rfl
    ·exact (by decide)
    ·exact (alS (by decide) (alS ⟨H1, J1⟩ (alS (by decide) (alS ⟨H2, J2⟩ al0))))
    ·exact (Or.inr (Or.inl ⟨hc21, hc25, rfl⟩))
  ·refine icY X0 hx (hb Y e50_9) (q := 105) (by decide) (by decide) (feq hc25).2 ?_
   rcases (A3 : ql = 0 ∨ ql = 2 ∨ ql = 4) with rfl | rfl | rfl
   ·show Go _ _ _ _ (T0.setTop (mkF m 105 #[vi kd, vi (Int32.ofNat pl), vi 0, vi p1, vi p2] []))
    refine iL X0 hx (hb Y e50_105) (q := 106) rfl rfl ?_
    refine ifN X0 hx (hb Y e50_106) (q := 109) rfl (by decide) ?_
    refine g_ldc X0 hx hZ0 hown0 (wd137 hw) (own_wS hw) hS0 (Nat.zero_le _) (own_EW hw) (by simp [EL]) C0.1 (vs := [(iv 47), (iv 42)]) (z := 2) ⟨by decide, by decide⟩ (by decide) (by decide) (n := 8) (by decide) (by decide) (by decide) (by decide) e0 (hb Y e50_109) (q := 111) rfl ?_
    intro b162 T162 h162 kk162 d162 k162 X162 e162 E162 hS162 hk162 hZ162 hown162 A162 Fc162 Fv162 V162 lta162 ltb162 R162 sn162
    have K163 : Keep h0 h162 [] := (Keep.refl h0 []).ext E162
    have f164 := C0.trans R162
    refine endC X162 hlk hS162 (by rw [e162]; exact (Nat.le_trans hk162 (Nat.le_refl _))) hZ162 (own_EW hw) (by rw [e162]; exact f164) (fun h => by rw [hret] at h; cases h) (lastA X162 hx hret rfl rfl rfl (hb Y e50_111)) ?_ (by decide) (by decide)
    rw [e162]
    refine ⟨b162, d162, k162, ([(47 : Int32), (42 : Int32)] : List Int32), 2, ?_, ?_, ?_, ?_, ?_, ?_, ?_, ?_, ?_, ?_, ?_⟩
    ·exact rfl
    ·exact N0
    ·exact K163
    ·exact A162
    ·exact Fc162
    ·exact Fv162
    ·exact V162
    ·exact rfl
    ·exact (by decide)
    ·exact (alS (by decide) (alS (by decide) al0))
    ·exact (Or.inr (Or.inr ⟨hc21, hc25, rfl⟩))
   ·show Go _ _ _ _ (T0.setTop (mkF m 105 #[vi kd, vi (Int32.ofNat pl), vi 2, vi p1, vi p2] []))
    refine iL X0 hx (hb Y e50_105) (q := 106) rfl rfl ?_
    refine ifY X0 hx (hb Y e50_106) (q := 112) (by decide) (by decide) (by decide) ?_
    refine iL X0 hx (hb Y e50_112) (q := 113) rfl rfl ?_
    refine cI X0 hx (hb Y e50_113) (q := 114) rfl (z := 2) rfl ?_
    refine icN X0 hx (hb Y e50_114) (q := 117) rfl (by decide) ?_
    refine g_new X0 hx hZ0 hown0 (wd138 hw) (wd10 hw) (wd9 hw) (by decide) (by decide) e0 (hb Y e50_117) (q := 120) rfl ?_
    intro T165 h165 b165 g165 X165 e165 E165 A165 D165
    have sf166 : Safe Z EL v0 h0 b165 := Safe.new (Nat.le_of_eq g165.symm)
    have F165_12 := D165 (Or.inr (wd12 hw)) (ty := (.array .byte)) (by decide)
    have F165_13 := D165 (Or.inr (wd13 hw)) (ty := .byte) (by decide)
    refine g_dup X165 hx (hb Y e50_120) (q := 121) rfl rfl ?_
    refine cI X165 hx (hb Y e50_121) (q := 122) rfl (z := 4) rfl ?_
    refine g_newA X165 hx hZ0 (aty := .char) (wd4 hw) (by decide) (n := 4) (by decide) (by decide) (by decide) (by decide) e165 (hb Y e50_122) (q := 124) rfl ?_
    intro T167 h167 k167 b167 g167 X167 e167 E167 V167
    have Va167 : Arv Z h167 b167 k167 .char (4 : Int32) [(iv 0), (iv 0), (iv 0), (iv 0)] (.int 0) := V167
    refine g_dup X167 hx (hb Y e50_124) (q := 125) rfl rfl ?_
    refine cI X167 hx (hb Y e50_125) (q := 126) rfl (z := 0) rfl ?_
    refine bI X167 hx (hb Y e50_126) (q := 128) rfl (z := 47) rfl ?_
    have f170 := O0.ext E165
    have gz169 : Z.heap.size ≤ b167 := Nat.le_trans f170.2.1 (Nat.le_of_eq g167.symm)
    have f171 := C0.trans (CHr.ext E165 C0.1)
    have f172 := f171.trans (CHr.ext E167 f171.1)
    refine g_stC X167 hx hZ0 Va167 (i := 0) (by decide) (by decide) (by decide) (Nat.le_of_ble_eq_true rfl) (y := (47 : Int32)) (by decide) e167 (hb Y e50_128) (q := 129) rfl ?_
    intro T168 h168 X168 e168 W168 V168
    have N168 := Fr.snoc X168 N0 gz169
    have Va168 : Arv Z h168 b167 k167 .char (4 : Int32) [(iv 47), (iv 0), (iv 0), (iv 0)] (.int 0) := V168
    refine g_dup X168 hx (hb Y e50_129) (q := 130) rfl rfl ?_
    refine cI X168 hx (hb Y e50_130) (q := 131) rfl (z := 1) rfl ?_
    refine iL X168 hx (hb Y e50_131) (q := 132) rfl rfl ?_
    have f174 := f172.trans (CHr.wr W168 (Safe.arv hZ0.alike Va167 (by decide)) f172.1)
    refine g_stC X168 hx hZ0 Va168 (i := 1) (by decide) (by decide) (by decide) (Nat.le_of_ble_eq_true rfl) (y := p1) (nar_of255 H1 J1) e168 (hb Y e50_132) (q := 133) rfl ?_
    intro T173 h173 X173 e173 W173 V173
    have N173 := Fr.snoc X173 N168 gz169
    have Va173 : Arv Z h173 b167 k167 .char (4 : Int32) [(iv 47), (.int p1), (iv 0), (iv 0)] (.int 0) := V173
    refine g_dup X173 hx (hb Y e50_133) (q := 134) rfl rfl ?_
    refine cI X173 hx (hb Y e50_134) (q := 135) rfl (z := 2) rfl ?_
    refine bI X173 hx (hb Y e50_135) (q := 137) rfl (z := 47) rfl ?_
    have f176 := f174.trans (CHr.wr W173 (Safe.arv hZ0.alike Va168 (by decide)) f174.1)
    refine g_stC X173 hx hZ0 Va173 (i := 2) (by decide) (by decide) (by decide) (Nat.le_of_ble_eq_true rfl) (y := (47 : Int32)) (by decide) e173 (hb Y e50_137) (q := 138) rfl ?_
    intro T175 h175 X175 e175 W175 V175
    have N175 := Fr.snoc X175 N173 gz169
    have Va175 : Arv Z h175 b167 k167 .char (4 : Int32) [(iv 47), (.int p1), (iv 47), (iv 0)] (.int 0) := V175
    refine g_dup X175 hx (hb Y e50_138) (q := 139) rfl rfl ?_
    refine cI X175 hx (hb Y e50_139) (q := 140) rfl (z := 3) rfl ?_
    refine bI X175 hx (hb Y e50_140) (q := 142) rfl (z := 42) rfl ?_
    have f178 := f176.trans (CHr.wr W175 (Safe.arv hZ0.alike Va173 (by decide)) f176.1)
    refine g_stC X175 hx hZ0 Va175 (i := 3) (by decide) (by decide) (by decide) (Nat.le_of_ble_eq_true rfl) (y := (42 : Int32)) (by decide) e175 (hb Y e50_142) (q := 143) rfl ?_
    intro T177 h177 X177 e177 W177 V177
    have N177 := Fr.snoc X177 N175 gz169
    have Va177 : Arv Z h177 b167 k167 .char (4 : Int32) [(iv 47), (.int p1), (iv 47), (iv 42)] (.int 0) := V177
    have f180 := f170.ext E167
    have f181 := f180.wr W168 gz169
    have f182 := f181.wr W173 gz169
    have f183 := f182.wr W175 gz169
    have f184 := f183.wr W177 gz169
    have gz185 : Z.heap.size ≤ b165 := Nat.le_trans O0.2.1 (Nat.le_of_eq g165.symm)
    have K186 := (Keep.refl h165 []).ext E167
    have K187 := K186.wr W168 (Or.inr (Nat.le_trans (Nat.le_refl _) (Nat.le_of_eq g167.symm)))
    have K188 := K187.wr W173 (Or.inr (Nat.le_trans (Nat.le_refl _) (Nat.le_of_eq g167.symm)))
    have K189 := K188.wr W175 (Or.inr (Nat.le_trans (Nat.le_refl _) (Nat.le_of_eq g167.symm)))
    have K190 := K189.wr W177 (Or.inr (Nat.le_trans (Nat.le_refl _) (Nat.le_of_eq g167.symm)))
    have f191 := A165.keep K190
    have f192 := F165_12.keep K190 nin0
    have f193 := F165_13.keep K190 nin0
    refine g_sp X177 hx hZ0 hown0 (wd139 hw) (wd140 hw) (wd141 hw) rfl (by decide) e177 (StrChars.Road.backV (s := (s.setVm v0)) (W := 1) hZ0 (own_wStr hw) (kI := 4) (wd10 hw) (cs := ([(47 : Int32), p1, (47 : Int32), (42 : Int32)] : List Int32)) (bs := (([(47 : Int32), p1, (47 : Int32), (42 : Int32)] : List Int32).map (fun c => c.toInt8.toInt32))) (n := 4) gz185 f184.2.1 f191 f192 f193 Va177 (SC.ext f184.2) PC rfl rfl (by decide) (by decide) (alS (by decide) (alS ⟨H1, J1⟩ (alS (by decide) (alS (by decide) al0)))) rfl (by decide) (by decide)) (a := b165) (argsL := [.ref b167]) (W := 1) (nk := 1) (ns := 4) (Qc := StrChars.Road.QV Z b165 (4 : Int32) (([(47 : Int32), p1, (47 : Int32), (42 : Int32)] : List Int32).map (fun c => c.toInt8.toInt32)) h177 Z.heap.size) (by rw [hml]; rfl) (lenOf pd36 rfl) rfl (Nat.le_of_eq rfl) (hb Y e50_143) (q := 146) rfl (by decide) (by decide) ?_
    intro v179 T179 L179 X179 Q179
    obtain ⟨rfl, Nq179, K179q, E179q, C179q, t179, kb179, tz179, tg179, tn179, Fv179, Va179⟩ := Q179
    have N179 := Fr.app N177 Nq179
    have Vb179 : Arv Z T179.heap t179 kb179 .byte (4 : Int32) [(iv 47), (.int (StrChars.lo8 p1)), (iv 47), (iv 42)] (.int 0) := Va179
    show Go _ _ _ _ (T179.setTop (mkF m 146 _ [(.ref b165)]))
    have K194 : Keep h0 h165 [] := (Keep.refl h0 []).ext E165
    have K195 : Keep h0 h167 [] := K194.ext E167
    have le197 := E165.1
    have gh196 : h0.size ≤ b167 := Nat.le_trans le197 (Nat.le_of_eq g167.symm)
    have K198 : Keep h0 h168 [] := K195.wr W168 (Or.inr gh196)
    have K199 : Keep h0 h173 [] := K198.wr W173 (Or.inr gh196)
    have K200 : Keep h0 h175 [] := K199.wr W175 (Or.inr gh196)
    have K201 : Keep h0 h177 [] := K200.wr W177 (Or.inr gh196)
    have gh202 : h0.size ≤ b165 := Nat.le_trans (Nat.le_refl _) (Nat.le_of_eq g165.symm)
    have K203 : Keep h0 T179.heap [] := K201.trans K179q (allS (Or.inr gh202) all0)
    have f204 := f178.trans (CHr.wr W177 (Safe.arv hZ0.alike Va175 (by decide)) f178.1)
    have f205 := Safe.ext E165 C0.1 sf166
    have f206 := Safe.ext E167 f171.1 f205
    have f207 := Safe.wr W168 (Safe.arv hZ0.alike Va167 (by decide)) f172.1 f206
    have f208 := Safe.wr W173 (Safe.arv hZ0.alike Va168 (by decide)) f174.1 f207
    have f209 := Safe.wr W175 (Safe.arv hZ0.alike Va173 (by decide)) f176.1 f208
    have f210 := Safe.wr W177 (Safe.arv hZ0.alike Va175 (by decide)) f178.1 f209
    have f211 := f204.trans (CHr.keep K179q (sfS f210 sf0) f204.1)
    refine endC X179 hlk hS0 (Nat.zero_le _) hZ0 (own_EW hw) f211 (fun h => by rw [hret] at h; cases h) (lastA X179 hx hret rfl rfl rfl (hb Y e50_146)) ?_ (by decide) (by decide)
    refine ⟨b165, t179, kb179, ([(47 : Int32), p1, (47 : Int32), (42 : Int32)] : List Int32), 4, ?_, ?_, ?_, ?_, ?_, ?_, ?_, ?_, ?_, ?_, ?_⟩
    ·exact rfl
    ·exact N179
    ·exact K203
    ·exact E179q
    ·exact C179q
    ·exact Fv179
    ·exact Vb179
    ·exact rfl
    ·exact (by decide)
    ·exact (alS (by decide) (alS ⟨H1, J1⟩ (alS (by decide) (alS (by decide) al0))))
    ·exact (Or.inr (Or.inr ⟨hc21, hc25, rfl⟩))
   ·show Go _ _ _ _ (T0.setTop (mkF m 105 #[vi kd, vi (Int32.ofNat pl), vi 4, vi p1, vi p2] []))
    refine iL X0 hx (hb Y e50_105) (q := 106) rfl rfl ?_
    refine ifY X0 hx (hb Y e50_106) (q := 112) (by decide) (by decide) (by decide) ?_
    refine iL X0 hx (hb Y e50_112) (q := 113) rfl rfl ?_
    refine cI X0 hx (hb Y e50_113) (q := 114) rfl (z := 2) rfl ?_
    refine icY X0 hx (hb Y e50_114) (q := 147) (by decide) (by decide) (by decide) ?_
    refine g_new X0 hx hZ0 hown0 (wd138 hw) (wd10 hw) (wd9 hw) (by decide) (by decide) e0 (hb Y e50_147) (q := 150) rfl ?_
    intro T212 h212 b212 g212 X212 e212 E212 A212 D212
    have sf213 : Safe Z EL v0 h0 b212 := Safe.new (Nat.le_of_eq g212.symm)
    have F212_12 := D212 (Or.inr (wd12 hw)) (ty := (.array .byte)) (by decide)
    have F212_13 := D212 (Or.inr (wd13 hw)) (ty := .byte) (by decide)
    refine g_dup X212 hx (hb Y e50_150) (q := 151) rfl rfl ?_
    refine bI X212 hx (hb Y e50_151) (q := 153) rfl (z := 6) rfl ?_
    refine g_newA X212 hx hZ0 (aty := .char) (wd4 hw) (by decide) (n := 6) (by decide) (by decide) (by decide) (by decide) e212 (hb Y e50_153) (q := 155) rfl ?_
    intro T214 h214 k214 b214 g214 X214 e214 E214 V214
    have Va214 : Arv Z h214 b214 k214 .char (6 : Int32) [(iv 0), (iv 0), (iv 0), (iv 0), (iv 0), (iv 0)] (.int 0) := V214
    refine g_dup X214 hx (hb Y e50_155) (q := 156) rfl rfl ?_
    refine cI X214 hx (hb Y e50_156) (q := 157) rfl (z := 0) rfl ?_
    refine bI X214 hx (hb Y e50_157) (q := 159) rfl (z := 47) rfl ?_
    have f217 := O0.ext E212
    have gz216 : Z.heap.size ≤ b214 := Nat.le_trans f217.2.1 (Nat.le_of_eq g214.symm)
    have f218 := C0.trans (CHr.ext E212 C0.1)
    have f219 := f218.trans (CHr.ext E214 f218.1)
    refine g_stC X214 hx hZ0 Va214 (i := 0) (by decide) (by decide) (by decide) (Nat.le_of_ble_eq_true rfl) (y := (47 : Int32)) (by decide) e214 (hb Y e50_159) (q := 160) rfl ?_
    intro T215 h215 X215 e215 W215 V215
    have N215 := Fr.snoc X215 N0 gz216
    have Va215 : Arv Z h215 b214 k214 .char (6 : Int32) [(iv 47), (iv 0), (iv 0), (iv 0), (iv 0), (iv 0)] (.int 0) := V215
    refine g_dup X215 hx (hb Y e50_160) (q := 161) rfl rfl ?_
    refine cI X215 hx (hb Y e50_161) (q := 162) rfl (z := 1) rfl ?_
    refine iL X215 hx (hb Y e50_162) (q := 163) rfl rfl ?_
    have f221 := f219.trans (CHr.wr W215 (Safe.arv hZ0.alike Va214 (by decide)) f219.1)
    refine g_stC X215 hx hZ0 Va215 (i := 1) (by decide) (by decide) (by decide) (Nat.le_of_ble_eq_true rfl) (y := p1) (nar_of255 H1 J1) e215 (hb Y e50_163) (q := 164) rfl ?_
    intro T220 h220 X220 e220 W220 V220
    have N220 := Fr.snoc X220 N215 gz216
    have Va220 : Arv Z h220 b214 k214 .char (6 : Int32) [(iv 47), (.int p1), (iv 0), (iv 0), (iv 0), (iv 0)] (.int 0) := V220
    refine g_dup X220 hx (hb Y e50_164) (q := 165) rfl rfl ?_
    refine cI X220 hx (hb Y e50_165) (q := 166) rfl (z := 2) rfl ?_
    refine bI X220 hx (hb Y e50_166) (q := 168) rfl (z := 47) rfl ?_
    have f223 := f221.trans (CHr.wr W220 (Safe.arv hZ0.alike Va215 (by decide)) f221.1)
    refine g_stC X220 hx hZ0 Va220 (i := 2) (by decide) (by decide) (by decide) (Nat.le_of_ble_eq_true rfl) (y := (47 : Int32)) (by decide) e220 (hb Y e50_168) (q := 169) rfl ?_
    intro T222 h222 X222 e222 W222 V222
    have N222 := Fr.snoc X222 N220 gz216
    have Va222 : Arv Z h222 b214 k214 .char (6 : Int32) [(iv 47), (.int p1), (iv 47), (iv 0), (iv 0), (iv 0)] (.int 0) := V222
    refine g_dup X222 hx (hb Y e50_169) (q := 170) rfl rfl ?_
    refine cI X222 hx (hb Y e50_170) (q := 171) rfl (z := 3) rfl ?_
    refine iLw X222 hx (hb Y e50_171) (q := 173) rfl rfl ?_
    have f225 := f223.trans (CHr.wr W222 (Safe.arv hZ0.alike Va220 (by decide)) f223.1)
    refine g_stC X222 hx hZ0 Va222 (i := 3) (by decide) (by decide) (by decide) (Nat.le_of_ble_eq_true rfl) (y := p2) (nar_of255 H2 J2) e222 (hb Y e50_173) (q := 174) rfl ?_
    intro T224 h224 X224 e224 W224 V224
    have N224 := Fr.snoc X224 N222 gz216
    have Va224 : Arv Z h224 b214 k214 .char (6 : Int32) [(iv 47), (.int p1), (iv 47), (.int p2), (iv 0), (iv 0)] (.int 0) := V224
    refine g_dup X224 hx (hb Y e50_174) (q := 175) rfl rfl ?_
    refine cI X224 hx (hb Y e50_175) (q := 176) rfl (z := 4) rfl ?_
    refine bI X224 hx (hb Y e50_176) (q := 178) rfl (z := 47) rfl ?_
    have f227 := f225.trans (CHr.wr W224 (Safe.arv hZ0.alike Va222 (by decide)) f225.1)
    refine g_stC X224 hx hZ0 Va224 (i := 4) (by decide) (by decide) (by decide) (Nat.le_of_ble_eq_true rfl) (y := (47 : Int32)) (by decide) e224 (hb Y e50_178) (q := 179) rfl ?_
    intro T226 h226 X226 e226 W226 V226
    have N226 := Fr.snoc X226 N224 gz216
    have Va226 : Arv Z h226 b214 k214 .char (6 : Int32) [(iv 47), (.int p1), (iv 47), (.int p2), (iv 47), (iv 0)] (.int 0) := V226
    refine g_dup X226 hx (hb Y e50_179) (q := 180) rfl rfl ?_
    refine cI X226 hx (hb Y e50_180) (q := 181) rfl (z := 5) rfl ?_
    refine bI X226 hx (hb Y e50_181) (q := 183) rfl (z := 42) rfl ?_
    have f229 := f227.trans (CHr.wr W226 (Safe.arv hZ0.alike Va224 (by decide)) f227.1)
    refine g_stC X226 hx hZ0 Va226 (i := 5) (by decide) (by decide) (by decide) (Nat.le_of_ble_eq_true rfl) (y := (42 : Int32)) (by decide) e226 (hb Y e50_183) (q := 184) rfl ?_
    intro T228 h228 X228 e228 W228 V228
    have N228 := Fr.snoc X228 N226 gz216
    have Va228 : Arv Z h228 b214 k214 .char (6 : Int32) [(iv 47), (.int p1), (iv 47), (.int p2), (iv 47), (iv 42)] (.int 0) := V228
    have f231 := f217.ext E214
    have f232 := f231.wr W215 gz216
    have f233 := f232.wr W220 gz216
    have f234 := f233.wr W222 gz216
    have f235 := f234.wr W224 gz216
    have f236 := f235.wr W226 gz216
    have f237 := f236.wr W228 gz216
    have gz238 : Z.heap.size ≤ b212 := Nat.le_trans O0.2.1 (Nat.le_of_eq g212.symm)
    have K239 := (Keep.refl h212 []).ext E214
    have K240 := K239.wr W215 (Or.inr (Nat.le_trans (Nat.le_refl _) (Nat.le_of_eq g214.symm)))
    have K241 := K240.wr W220 (Or.inr (Nat.le_trans (Nat.le_refl _) (Nat.le_of_eq g214.symm)))
    have K242 := K241.wr W222 (Or.inr (Nat.le_trans (Nat.le_refl _) (Nat.le_of_eq g214.symm)))
    have K243 := K242.wr W224 (Or.inr (Nat.le_trans (Nat.le_refl _) (Nat.le_of_eq g214.symm)))
    have K244 := K243.wr W226 (Or.inr (Nat.le_trans (Nat.le_refl _) (Nat.le_of_eq g214.symm)))
    have K245 := K244.wr W228 (Or.inr (Nat.le_trans (Nat.le_refl _) (Nat.le_of_eq g214.symm)))
    have f246 := A212.keep K245
    have f247 := F212_12.keep K245 nin0
    have f248 := F212_13.keep K245 nin0
    refine g_sp X228 hx hZ0 hown0 (wd139 hw) (wd140 hw) (wd141 hw) rfl (by decide) e228 (StrChars.Road.backV (s := (s.setVm v0)) (W := 1) hZ0 (own_wStr hw) (kI := 4) (wd10 hw) (cs := ([(47 : Int32), p1, (47 : Int32), p2, (47 : Int32), (42 : Int32)] : List Int32)) (bs := (([(47 : Int32), p1, (47 : Int32), p2, (47 : Int32), (42 : Int32)] : List Int32).map (fun c => c.toInt8.toInt32))) (n := 6) gz238 f237.2.1 f246 f247 f248 Va228 (SC.ext f237.2) PC rfl rfl (by decide) (by decide) (alS (by decide) (alS ⟨H1, J1⟩ (alS (by decide) (alS ⟨H2, J2⟩ (alS (by decide) (alS (by decide) al0)))))) rfl (by decide) (by decide)) (a := b212) (argsL := [.ref b214]) (W := 1) (nk := 1) (ns := 6) (Qc := StrChars.Road.QV Z b212 (6 : Int32) (([(47 : Int32), p1, (47 : Int32), p2, (47 : Int32), (42 : Int32)] : List Int32).map (fun c => c.toInt8.toInt32)) h228 Z.heap.size) (by rw [hml]; rfl) (lenOf pd36 rfl) rfl (Nat.le_of_eq rfl) (hb Y e50_184) (q := 187) rfl (by decide) (by decide) ?_
    intro v230 T230 L230 X230 Q230
    obtain ⟨rfl, Nq230, K230q, E230q, C230q, t230, kb230, tz230, tg230, tn230, Fv230, Va230⟩ := Q230
    have N230 := Fr.app N228 Nq230
    have Vb230 : Arv Z T230.heap t230 kb230 .byte (6 : Int32) [(iv 47), (.int (StrChars.lo8 p1)), (iv 47), (.int (StrChars.lo8 p2)), (iv 47), (iv 42)] (.int 0) := Va230
    show Go _ _ _ _ (T230.setTop (mkF m 187 _ [(.ref b212)]))
    have K249 : Keep h0 h212 [] := (Keep.refl h0 []).ext E212
    have K250 : Keep h0 h214 [] := K249.ext E214
    have le252 := E212.1
    have gh251 : h0.size ≤ b214 := Nat.le_trans le252 (Nat.le_of_eq g214.symm)
    have K253 : Keep h0 h215 [] := K250.wr W215 (Or.inr gh251)
    have K254 : Keep h0 h220 [] := K253.wr W220 (Or.inr gh251)
    have K255 : Keep h0 h222 [] := K254.wr W222 (Or.inr gh251)
    have K256 : Keep h0 h224 [] := K255.wr W224 (Or.inr gh251)
    have K257 : Keep h0 h226 [] := K256.wr W226 (Or.inr gh251)
    have K258 : Keep h0 h228 [] := K257.wr W228 (Or.inr gh251)
    have gh259 : h0.size ≤ b212 := Nat.le_trans (Nat.le_refl _) (Nat.le_of_eq g212.symm)
    have K260 : Keep h0 T230.heap [] := K258.trans K230q (allS (Or.inr gh259) all0)
    have f261 := f229.trans (CHr.wr W228 (Safe.arv hZ0.alike Va226 (by decide)) f229.1)
    have f262 := Safe.ext E212 C0.1 sf213
    have f263 := Safe.ext E214 f218.1 f262
    have f264 := Safe.wr W215 (Safe.arv hZ0.alike Va214 (by decide)) f219.1 f263
    have f265 := Safe.wr W220 (Safe.arv hZ0.alike Va215 (by decide)) f221.1 f264
    have f266 := Safe.wr W222 (Safe.arv hZ0.alike Va220 (by decide)) f223.1 f265
    have f267 := Safe.wr W224 (Safe.arv hZ0.alike Va222 (by decide)) f225.1 f266
    have f268 := Safe.wr W226 (Safe.arv hZ0.alike Va224 (by decide)) f227.1 f267
    have f269 := Safe.wr W228 (Safe.arv hZ0.alike Va226 (by decide)) f229.1 f268
    have f270 := f261.trans (CHr.keep K230q (sfS f269 sf0) f261.1)
    refine endC X230 hlk hS0 (Nat.zero_le _) hZ0 (own_EW hw) f270 (fun h => by rw [hret] at h; cases h) (lastA X230 hx hret rfl rfl rfl (hb Y e50_187)) ?_ (by decide) (by decide)
    refine ⟨b212, t230, kb230, ([(47 : Int32), p1, (47 : Int32), p2, (47 : Int32), (42 : Int32)] : List Int32), 6, ?_, ?_, ?_, ?_, ?_, ?_, ?_, ?_, ?_, ?_, ?_⟩
    ·exact rfl
    ·exact N230
    ·exact K260
    ·exact E230q
    ·exact C230q
    ·exact Fv230
    ·exact Vb230
    ·exact rfl
    ·exact (by decide)
    ·exact (alS (by decide) (alS ⟨H1, J1⟩ (alS (by decide) (alS ⟨H2, J2⟩ (alS (by decide) (alS (by decide) al0))))))
    ·exact (Or.inr (Or.inr ⟨hc21, hc25, rfl⟩))
theorem e51_0 : Dc kC58 0 (.iload_n 1) 1 := by decide +kernel
theorem e51_1 : Dc kC58 1 (.ifCond .ne 6) 3 := by decide +kernel
theorem e51_4 : Dc kC58 4 (.ldc 56) 2 := by decide +kernel
theorem e51_6 : Dc kC58 6 .areturn 1 := by decide +kernel
theorem e51_7 : Dc kC58 7 (.iload_n 1) 1 := by decide +kernel
theorem e51_8 : Dc kC58 8 (.iconst 1) 1 := by decide +kernel
theorem e51_9 : Dc kC58 9 (.if_icmp .ne 20) 3 := by decide +kernel
theorem e51_12 : Dc kC58 12 (.new 49) 3 := by decide +kernel
theorem e51_15 : Dc kC58 15 .dup 1 := by decide +kernel
theorem e51_16 : Dc kC58 16 (.iconst 1) 1 := by decide +kernel
theorem e51_17 : Dc kC58 17 (.newarray .char) 2 := by decide +kernel
theorem e51_19 : Dc kC58 19 .dup 1 := by decide +kernel
theorem e51_20 : Dc kC58 20 (.iconst 0) 1 := by decide +kernel
theorem e51_21 : Dc kC58 21 (.aload_n 0) 1 := by decide +kernel
theorem e51_22 : Dc kC58 22 (.iconst 0) 1 := by decide +kernel
theorem e51_23 : Dc kC58 23 .caload 1 := by decide +kernel
theorem e51_24 : Dc kC58 24 .castore 1 := by decide +kernel
theorem e51_25 : Dc kC58 25 (.invokespecial 51) 3 := by decide +kernel
theorem e51_28 : Dc kC58 28 .areturn 1 := by decide +kernel
theorem e51_29 : Dc kC58 29 (.iload_n 1) 1 := by decide +kernel
theorem e51_30 : Dc kC58 30 (.iconst 2) 1 := by decide +kernel
theorem e51_31 : Dc kC58 31 (.if_icmp .ne 26) 3 := by decide +kernel
theorem e51_34 : Dc kC58 34 (.new 49) 3 := by decide +kernel
theorem e51_37 : Dc kC58 37 .dup 1 := by decide +kernel
theorem e51_38 : Dc kC58 38 (.iconst 2) 1 := by decide +kernel
theorem e51_39 : Dc kC58 39 (.newarray .char) 2 := by decide +kernel
theorem e51_41 : Dc kC58 41 .dup 1 := by decide +kernel
theorem e51_42 : Dc kC58 42 (.iconst 0) 1 := by decide +kernel
theorem e51_43 : Dc kC58 43 (.aload_n 0) 1 := by decide +kernel
theorem e51_44 : Dc kC58 44 (.iconst 0) 1 := by decide +kernel
theorem e51_45 : Dc kC58 45 .caload 1 := by decide +kernel
theorem e51_46 : Dc kC58 46 .castore 1 := by decide +kernel
theorem e51_47 : Dc kC58 47 .dup 1 := by decide +kernel
theorem e51_48 : Dc kC58 48 (.iconst 1) 1 := by decide +kernel
theorem e51_49 : Dc kC58 49 (.aload_n 0) 1 := by decide +kernel
theorem e51_50 : Dc kC58 50 (.iconst 1) 1 := by decide +kernel
theorem e51_51 : Dc kC58 51 .caload 1 := by decide +kernel
theorem e51_52 : Dc kC58 52 .castore 1 := by decide +kernel
theorem e51_53 : Dc kC58 53 (.invokespecial 51) 3 := by decide +kernel
theorem e51_56 : Dc kC58 56 .areturn 1 := by decide +kernel
theorem e51_57 : Dc kC58 57 (.iload_n 1) 1 := by decide +kernel
theorem e51_58 : Dc kC58 58 (.iconst 3) 1 := by decide +kernel
theorem e51_59 : Dc kC58 59 (.if_icmp .ne 32) 3 := by decide +kernel
theorem e51_62 : Dc kC58 62 (.new 49) 3 := by decide +kernel
theorem e51_65 : Dc kC58 65 .dup 1 := by decide +kernel
theorem e51_66 : Dc kC58 66 (.iconst 3) 1 := by decide +kernel
theorem e51_67 : Dc kC58 67 (.newarray .char) 2 := by decide +kernel
theorem e51_69 : Dc kC58 69 .dup 1 := by decide +kernel
theorem e51_70 : Dc kC58 70 (.iconst 0) 1 := by decide +kernel
theorem e51_71 : Dc kC58 71 (.aload_n 0) 1 := by decide +kernel
theorem e51_72 : Dc kC58 72 (.iconst 0) 1 := by decide +kernel
theorem e51_73 : Dc kC58 73 .caload 1 := by decide +kernel
theorem e51_74 : Dc kC58 74 .castore 1 := by decide +kernel
theorem e51_75 : Dc kC58 75 .dup 1 := by decide +kernel
theorem e51_76 : Dc kC58 76 (.iconst 1) 1 := by decide +kernel
theorem e51_77 : Dc kC58 77 (.aload_n 0) 1 := by decide +kernel
theorem e51_78 : Dc kC58 78 (.iconst 1) 1 := by decide +kernel
theorem e51_79 : Dc kC58 79 .caload 1 := by decide +kernel
theorem e51_80 : Dc kC58 80 .castore 1 := by decide +kernel
theorem e51_81 : Dc kC58 81 .dup 1 := by decide +kernel
theorem e51_82 : Dc kC58 82 (.iconst 2) 1 := by decide +kernel
theorem e51_83 : Dc kC58 83 (.aload_n 0) 1 := by decide +kernel
theorem e51_84 : Dc kC58 84 (.iconst 2) 1 := by decide +kernel
theorem e51_85 : Dc kC58 85 .caload 1 := by decide +kernel
theorem e51_86 : Dc kC58 86 .castore 1 := by decide +kernel
theorem e51_87 : Dc kC58 87 (.invokespecial 51) 3 := by decide +kernel
theorem e51_90 : Dc kC58 90 .areturn 1 := by decide +kernel
theorem e51_91 : Dc kC58 91 (.iload_n 1) 1 := by decide +kernel
theorem e51_92 : Dc kC58 92 (.iconst 4) 1 := by decide +kernel
theorem e51_93 : Dc kC58 93 (.if_icmp .ne 38) 3 := by decide +kernel
theorem e51_96 : Dc kC58 96 (.new 49) 3 := by decide +kernel
theorem e51_99 : Dc kC58 99 .dup 1 := by decide +kernel
theorem e51_100 : Dc kC58 100 (.iconst 4) 1 := by decide +kernel
theorem e51_101 : Dc kC58 101 (.newarray .char) 2 := by decide +kernel
theorem e51_103 : Dc kC58 103 .dup 1 := by decide +kernel
theorem e51_104 : Dc kC58 104 (.iconst 0) 1 := by decide +kernel
theorem e51_105 : Dc kC58 105 (.aload_n 0) 1 := by decide +kernel
theorem e51_106 : Dc kC58 106 (.iconst 0) 1 := by decide +kernel
theorem e51_107 : Dc kC58 107 .caload 1 := by decide +kernel
theorem e51_108 : Dc kC58 108 .castore 1 := by decide +kernel
theorem e51_109 : Dc kC58 109 .dup 1 := by decide +kernel
theorem e51_110 : Dc kC58 110 (.iconst 1) 1 := by decide +kernel
theorem e51_111 : Dc kC58 111 (.aload_n 0) 1 := by decide +kernel
theorem e51_112 : Dc kC58 112 (.iconst 1) 1 := by decide +kernel
theorem e51_113 : Dc kC58 113 .caload 1 := by decide +kernel
theorem e51_114 : Dc kC58 114 .castore 1 := by decide +kernel
theorem e51_115 : Dc kC58 115 .dup 1 := by decide +kernel
theorem e51_116 : Dc kC58 116 (.iconst 2) 1 := by decide +kernel
theorem e51_117 : Dc kC58 117 (.aload_n 0) 1 := by decide +kernel
theorem e51_118 : Dc kC58 118 (.iconst 2) 1 := by decide +kernel
theorem e51_119 : Dc kC58 119 .caload 1 := by decide +kernel
theorem e51_120 : Dc kC58 120 .castore 1 := by decide +kernel
theorem e51_121 : Dc kC58 121 .dup 1 := by decide +kernel
theorem e51_122 : Dc kC58 122 (.iconst 3) 1 := by decide +kernel
theorem e51_123 : Dc kC58 123 (.aload_n 0) 1 := by decide +kernel
theorem e51_124 : Dc kC58 124 (.iconst 3) 1 := by decide +kernel
theorem e51_125 : Dc kC58 125 .caload 1 := by decide +kernel
theorem e51_126 : Dc kC58 126 .castore 1 := by decide +kernel
theorem e51_127 : Dc kC58 127 (.invokespecial 51) 3 := by decide +kernel
theorem e51_130 : Dc kC58 130 .areturn 1 := by decide +kernel
theorem e51_131 : Dc kC58 131 (.new 49) 3 := by decide +kernel
theorem e51_134 : Dc kC58 134 .dup 1 := by decide +kernel
theorem e51_135 : Dc kC58 135 (.iconst 5) 1 := by decide +kernel
theorem e51_136 : Dc kC58 136 (.newarray .char) 2 := by decide +kernel
theorem e51_138 : Dc kC58 138 .dup 1 := by decide +kernel
theorem e51_139 : Dc kC58 139 (.iconst 0) 1 := by decide +kernel
theorem e51_140 : Dc kC58 140 (.aload_n 0) 1 := by decide +kernel
theorem e51_141 : Dc kC58 141 (.iconst 0) 1 := by decide +kernel
theorem e51_142 : Dc kC58 142 .caload 1 := by decide +kernel
theorem e51_143 : Dc kC58 143 .castore 1 := by decide +kernel
theorem e51_144 : Dc kC58 144 .dup 1 := by decide +kernel
theorem e51_145 : Dc kC58 145 (.iconst 1) 1 := by decide +kernel
theorem e51_146 : Dc kC58 146 (.aload_n 0) 1 := by decide +kernel
theorem e51_147 : Dc kC58 147 (.iconst 1) 1 := by decide +kernel
theorem e51_148 : Dc kC58 148 .caload 1 := by decide +kernel
theorem e51_149 : Dc kC58 149 .castore 1 := by decide +kernel
theorem e51_150 : Dc kC58 150 .dup 1 := by decide +kernel
theorem e51_151 : Dc kC58 151 (.iconst 2) 1 := by decide +kernel
theorem e51_152 : Dc kC58 152 (.aload_n 0) 1 := by decide +kernel
theorem e51_153 : Dc kC58 153 (.iconst 2) 1 := by decide +kernel
theorem e51_154 : Dc kC58 154 .caload 1 := by decide +kernel
theorem e51_155 : Dc kC58 155 .castore 1 := by decide +kernel
theorem e51_156 : Dc kC58 156 .dup 1 := by decide +kernel
theorem e51_157 : Dc kC58 157 (.iconst 3) 1 := by decide +kernel
theorem e51_158 : Dc kC58 158 (.aload_n 0) 1 := by decide +kernel
theorem e51_159 : Dc kC58 159 (.iconst 3) 1 := by decide +kernel
theorem e51_160 : Dc kC58 160 .caload 1 := by decide +kernel
theorem e51_161 : Dc kC58 161 .castore 1 := by decide +kernel
theorem e51_162 : Dc kC58 162 .dup 1 := by decide +kernel
theorem e51_163 : Dc kC58 163 (.iconst 4) 1 := by decide +kernel
theorem e51_164 : Dc kC58 164 (.aload_n 0) 1 := by decide +kernel
theorem e51_165 : Dc kC58 165 (.iconst 4) 1 := by decide +kernel
theorem e51_166 : Dc kC58 166 .caload 1 := by decide +kernel
theorem e51_167 : Dc kC58 167 .castore 1 := by decide +kernel
theorem e51_168 : Dc kC58 168 (.invokespecial 51) 3 := by decide +kernel
theorem e51_171 : Dc kC58 171 .areturn 1 := by decide +kernel
def Q_text (Z : State) (zC : Int32) (vF : Value) (ae : Addr) (ke : ClassId) (ea eb : Int32) (ec ed ee : Int32) (el : Nat) (h0 : Heap) (v : Option Value) (h : Heap) (L : List Loc) : Prop := ∃ (r : Addr), ∃ (ct : Addr), ∃ (kc : ClassId), v = some (.ref r) ∧ Fr Z.heap.size L ∧ Keep h0 h [] ∧ Exa Z h r sT0 ∧ Fld Z h r sT0 "coder" "B" (iv 0) ∧ Fld Z h r sT0 "value" "[B" (.ref ct) ∧ Arv Z h ct kc .byte (Int32.ofNat el) ((List.take el ([ea, eb, ec, ed, ee] : List Int32)).map lo8V) (.int 0)
theorem rm_text (l : Launch) (Z : State) (a0 : Array Value) (hw : HW a0 Z) (zC : Int32) (vF : Value) (G : GB l a0 Z zC vF) (ae : Addr) (ke : ClassId) (ea eb : Int32) (ec ed ee : Int32) (el : Nat) (h0 : Heap) (O0 : Old Z Z.heap.size h0) (Pe : Arv Z h0 ae ke .char (5 : Int32) [(.int ea), (.int eb), (.int ec), (.int ed), (.int ee)] (.int 0)) (H0 : (¬ (ea < (0 : Int32)))) (J0 : (¬ ((255 : Int32) < ea))) (H1 : (¬ (eb < (0 : Int32)))) (J1 : (¬ ((255 : Int32) < eb))) (H2 : (¬ (ec < (0 : Int32)))) (J2 : (¬ ((255 : Int32) < ec))) (H3 : (¬ (ed < (0 : Int32)))) (J3 : (¬ ((255 : Int32) < ed))) (H4 : (¬ (ee < (0 : Int32)))) (J4 : (¬ ((255 : Int32) < ee))) (A1 : (el ≤ 5)) :
    ConS l Z EL (⟨sT3, "text", "([CI)Ljava/lang/String;"⟩ : MethodName) kC58 2 (some (.object sT0)) ({ frames := 4, cells := 3, slots := 14, locals := 66 } : Room) #[(.ref ae), (.int (Int32.ofNat el))] h0 [] (Q_text Z zC vF ae ke ea eb ec ed ee el h0) := by
 obtain ⟨SC, PC, rF, SF⟩ := id G
 refine ConS.intro (plainFor_of_name pn11) ?_
 intro p e s m below meth c T0 v0 X0 hx Y hml hown0 hnm hret hlk hZ0 e0 hS0 C0 hsl0
 have N0 := Fr.nil Z.heap.size
 refine castGo (g' := mkF m 0 #[vr ae, vi (Int32.ofNat el)] []) (by first | rfl | (simp [entryFrame, mkF, argsToLocals, Value.category]; done)) ?_
 show Go _ _ _ _ (T0.setTop (mkF m 0 #[vr ae, vi (Int32.ofNat el)] []))
 rcases (by omega : el = 0 ∨ el = 1 ∨ el = 2 ∨ el = 3 ∨ el = 4 ∨ el = 5) with rfl | rfl | rfl | rfl | rfl | rfl
 ·show Go _ _ _ _ (T0.setTop (mkF m 0 #[vr ae, vi 0] []))
  refine iL X0 hx (hb Y e51_0) (q := 1) rfl rfl ?_
  refine ifN X0 hx (hb Y e51_1) (q := 4) rfl (by decide) ?_
  refine g_ldc X0 hx hZ0 hown0 (wd24 hw) (own_wS hw) hS0 (Nat.zero_le _) (own_EW hw) (by simp [EL]) C0.1 (vs := []) (z := 0) ⟨by decide, by decide⟩ (by decide) (by decide) (n := 0) (by decide) (by decide) (by decide) (by decide) e0 (hb Y e51_4) (q := 6) rfl ?_
  intro b21 T21 h21 kk21 d21 k21 X21 e21 E21 hS21 hk21 hZ21 hown21 A21 Fc21 Fv21 V21 lta21 ltb21 R21 sn21
  have K22 : Keep h0 h21 [] := (Keep.refl h0 []).ext E21
  have f23 := C0.trans R21
  refine endC X21 hlk hS21 (by rw [e21]; exact (Nat.le_trans hk21 (Nat.le_refl _))) hZ21 (own_EW hw) (by rw [e21]; exact f23) (fun h => by rw [hret] at h; cases h) (lastA X21 hx hret rfl rfl rfl (hb Y e51_6)) ?_ (by decide) (by decide)
  rw [e21]
  refine ⟨b21, d21, k21, ?_, ?_, ?_, ?_, ?_, ?_, ?_⟩
  ·exact rfl
  ·exact N0
  ·exact K22
  ·exact A21
  ·exact Fc21
  ·exact Fv21
  ·exact V21
 ·show Go _ _ _ _ (T0.setTop (mkF m 0 #[vr ae, vi 1] []))
  refine iL X0 hx (hb Y e51_0) (q := 1) rfl rfl ?_
  refine ifY X0 hx (hb Y e51_1) (q := 7) (by decide) (by decide) (by decide) ?_
  refine iL X0 hx (hb Y e51_7) (q := 8) rfl rfl ?_
  refine cI X0 hx (hb Y e51_8) (q := 9) rfl (z := 1) rfl ?_
  refine icN X0 hx (hb Y e51_9) (q := 12) rfl (by decide) ?_
  refine g_new X0 hx hZ0 hown0 (wd138 hw) (wd10 hw) (wd9 hw) (by decide) (by decide) e0 (hb Y e51_12) (q := 15) rfl ?_
  intro T24 h24 b24 g24 X24 e24 E24 A24 D24
  have sf25 : Safe Z EL v0 h0 b24 := Safe.new (Nat.le_of_eq g24.symm)
  have F24_12 := D24 (Or.inr (wd12 hw)) (ty := (.array .byte)) (by decide)
  have F24_13 := D24 (Or.inr (wd13 hw)) (ty := .byte) (by decide)
  refine g_dup X24 hx (hb Y e51_15) (q := 16) rfl rfl ?_
  refine cI X24 hx (hb Y e51_16) (q := 17) rfl (z := 1) rfl ?_
  refine g_newA X24 hx hZ0 (aty := .char) (wd4 hw) (by decide) (n := 1) (by decide) (by decide) (by decide) (by decide) e24 (hb Y e51_17) (q := 19) rfl ?_
  intro T26 h26 k26 b26 g26 X26 e26 E26 V26
  have Va26 : Arv Z h26 b26 k26 .char (1 : Int32) [(iv 0)] (.int 0) := V26
  refine g_dup X26 hx (hb Y e51_19) (q := 20) rfl rfl ?_
  refine cI X26 hx (hb Y e51_20) (q := 21) rfl (z := 0) rfl ?_
  refine aL X26 hx (hb Y e51_21) (q := 22) rfl rfl rfl ?_
  refine cI X26 hx (hb Y e51_22) (q := 23) rfl (z := 0) rfl ?_
  have f27 := Pe.ext E24
  have f28 := f27.ext E26
  refine g_ldC X26 hx hZ0 f28 (i := 0) (by decide) (by decide) (by decide) (v := (.int ea)) rfl e26 (hb Y e51_23) (q := 24) rfl ?_
  have f31 := O0.ext E24
  have gz30 : Z.heap.size ≤ b26 := Nat.le_trans f31.2.1 (Nat.le_of_eq g26.symm)
  have f32 := C0.trans (CHr.ext E24 C0.1)
  have f33 := f32.trans (CHr.ext E26 f32.1)
  refine g_stC X26 hx hZ0 Va26 (i := 0) (by decide) (by decide) (by decide) (Nat.le_of_ble_eq_true rfl) (y := ea) (nar_of255 H0 J0) e26 (hb Y e51_24) (q := 25) rfl ?_
  intro T29 h29 X29 e29 W29 V29
  have N29 := Fr.snoc X29 N0 gz30
  have Va29 : Arv Z h29 b26 k26 .char (1 : Int32) [(.int ea)] (.int 0) := V29
  have f35 := f31.ext E26
  have f36 := f35.wr W29 gz30
  have gz37 : Z.heap.size ≤ b24 := Nat.le_trans O0.2.1 (Nat.le_of_eq g24.symm)
  have f38 := A24.ext E26
  have f39 := f38.wr W29
  have f40 := F24_12.ext E26
  have ne41 : b24 ≠ b26 := (Nat.ne_of_lt (Nat.lt_of_lt_of_le (Nat.lt_of_lt_of_le A24.lt (Nat.le_refl _)) (Nat.le_of_eq g26.symm)))
  have f42 := f40.other W29 (Or.inl ne41)
  have f43 := F24_13.ext E26
  have f44 := f43.other W29 (Or.inl ne41)
  refine g_sp X29 hx hZ0 hown0 (wd139 hw) (wd140 hw) (wd141 hw) rfl (by decide) e29 (StrChars.Road.backV (s := (s.setVm v0)) (W := 1) hZ0 (own_wStr hw) (kI := 4) (wd10 hw) (cs := ([ea] : List Int32)) (bs := (([ea] : List Int32).map (fun c => c.toInt8.toInt32))) (n := 1) gz37 f36.2.1 f39 f42 f44 Va29 (SC.ext f36.2) PC rfl rfl (by decide) (by decide) (alS ⟨H0, J0⟩ al0) rfl (by decide) (by decide)) (a := b24) (argsL := [.ref b26]) (W := 1) (nk := 1) (ns := 1) (Qc := StrChars.Road.QV Z b24 (1 : Int32) (([ea] : List Int32).map (fun c => c.toInt8.toInt32)) h29 Z.heap.size) (by rw [hml]; rfl) (lenOf pd36 rfl) rfl (Nat.le_of_eq rfl) (hb Y e51_25) (q := 28) rfl (by decide) (by decide) ?_
  intro v34 T34 L34 X34 Q34
  obtain ⟨rfl, Nq34, K34q, E34q, C34q, t34, kb34, tz34, tg34, tn34, Fv34, Va34⟩ := Q34
  have N34 := Fr.app N29 Nq34
  have Vb34 : Arv Z T34.heap t34 kb34 .byte (1 : Int32) [(.int (StrChars.lo8 ea))] (.int 0) := Va34
  show Go _ _ _ _ (T34.setTop (mkF m 28 _ [(.ref b24)]))
  have K45 : Keep h0 h24 [] := (Keep.refl h0 []).ext E24
  have K46 : Keep h0 h26 [] := K45.ext E26
  have le48 := E24.1
  have gh47 : h0.size ≤ b26 := Nat.le_trans le48 (Nat.le_of_eq g26.symm)
  have K49 : Keep h0 h29 [] := K46.wr W29 (Or.inr gh47)
  have gh50 : h0.size ≤ b24 := Nat.le_trans (Nat.le_refl _) (Nat.le_of_eq g24.symm)
  have K51 : Keep h0 T34.heap [] := K49.trans K34q (allS (Or.inr gh50) all0)
  have f52 := f33.trans (CHr.wr W29 (Safe.arv hZ0.alike Va26 (by decide)) f33.1)
  have f53 := Safe.ext E24 C0.1 sf25
  have f54 := Safe.ext E26 f32.1 f53
  have f55 := Safe.wr W29 (Safe.arv hZ0.alike Va26 (by decide)) f33.1 f54
  have f56 := f52.trans (CHr.keep K34q (sfS f55 sf0) f52.1)
  refine endC X34 hlk hS0 (Nat.zero_le _) hZ0 (own_EW hw) f56 (fun h => by rw [hret] at h; cases h) (lastA X34 hx hret rfl rfl rfl (hb Y e51_28)) ?_ (by decide) (by decide)
  refine ⟨b24, t34, kb34, ?_, ?_, ?_, ?_, ?_, ?_, ?_⟩
  ·exact rfl
  ·exact N34
  ·exact K51
  ·exact E34q
  ·exact C34q
  ·exact Fv34
  ·exact Vb34
 ·show Go _ _ _ _ (T0.setTop (mkF m 0 #[vr ae, vi 2] []))
  refine iL X0 hx (hb Y e51_0) (q := 1) rfl rfl ?_
  refine ifY X0 hx (hb Y e51_1) (q := 7) (by decide) (by decide) (by decide) ?_
  refine iL X0 hx (hb Y e51_7) (q := 8) rfl rfl ?_
  refine cI X0 hx (hb Y e51_8) (q := 9) rfl (z := 1) rfl ?_
  refine icY X0 hx (hb Y e51_9) (q := 29) (by decide) (by decide) (by decide) ?_
  refine iL X0 hx (hb Y e51_29) (q := 30) rfl rfl ?_
  refine cI X0 hx (hb Y e51_30) (q := 31) rfl (z := 2) rfl ?_
  refine icN X0 hx (hb Y e51_31) (q := 34) rfl (by decide) ?_
  refine g_new X0 hx hZ0 hown0 (wd138 hw) (wd10 hw) (wd9 hw) (by decide) (by decide) e0 (hb Y e51_34) (q := 37) rfl ?_
  intro T57 h57 b57 g57 X57 e57 E57 A57 D57
  have sf58 : Safe Z EL v0 h0 b57 := Safe.new (Nat.le_of_eq g57.symm)
  have F57_12 := D57 (Or.inr (wd12 hw)) (ty := (.array .byte)) (by decide)
  have F57_13 := D57 (Or.inr (wd13 hw)) (ty := .byte) (by decide)
  refine g_dup X57 hx (hb Y e51_37) (q := 38) rfl rfl ?_
  refine cI X57 hx (hb Y e51_38) (q := 39) rfl (z := 2) rfl ?_
  refine g_newA X57 hx hZ0 (aty := .char) (wd4 hw) (by decide) (n := 2) (by decide) (by decide) (by decide) (by decide) e57 (hb Y e51_39) (q := 41) rfl ?_
  intro T59 h59 k59 b59 g59 X59 e59 E59 V59
  have Va59 : Arv Z h59 b59 k59 .char (2 : Int32) [(iv 0), (iv 0)] (.int 0) := V59
  refine g_dup X59 hx (hb Y e51_41) (q := 42) rfl rfl ?_
  refine cI X59 hx (hb Y e51_42) (q := 43) rfl (z := 0) rfl ?_
  refine aL X59 hx (hb Y e51_43) (q := 44) rfl rfl rfl ?_
  refine cI X59 hx (hb Y e51_44) (q := 45) rfl (z := 0) rfl ?_
  have f60 := Pe.ext E57
  have f61 := f60.ext E59
  refine g_ldC X59 hx hZ0 f61 (i := 0) (by decide) (by decide) (by decide) (v := (.int ea)) rfl e59 (hb Y e51_45) (q := 46) rfl ?_
  have f64 := O0.ext E57
  have gz63 : Z.heap.size ≤ b59 := Nat.le_trans f64.2.1 (Nat.le_of_eq g59.symm)
  have f65 := C0.trans (CHr.ext E57 C0.1)
  have f66 := f65.trans (CHr.ext E59 f65.1)
  refine g_stC X59 hx hZ0 Va59 (i := 0) (by decide) (by decide) (by decide) (Nat.le_of_ble_eq_true rfl) (y := ea) (nar_of255 H0 J0) e59 (hb Y e51_46) (q := 47) rfl ?_
  intro T62 h62 X62 e62 W62 V62
  have N62 := Fr.snoc X62 N0 gz63
  have Va62 : Arv Z h62 b59 k59 .char (2 : Int32) [(.int ea), (iv 0)] (.int 0) := V62
  refine g_dup X62 hx (hb Y e51_47) (q := 48) rfl rfl ?_
  refine cI X62 hx (hb Y e51_48) (q := 49) rfl (z := 1) rfl ?_
  refine aL X62 hx (hb Y e51_49) (q := 50) rfl rfl rfl ?_
  refine cI X62 hx (hb Y e51_50) (q := 51) rfl (z := 1) rfl ?_
  have le67 := E57.1
  have ne68 : ae ≠ b59 := (Nat.ne_of_lt (Nat.lt_of_lt_of_le (Nat.lt_of_lt_of_le Pe.lt le67) (Nat.le_of_eq g59.symm)))
  have f69 := f61.other W62 ne68
  refine g_ldC X62 hx hZ0 f69 (i := 1) (by decide) (by decide) (by decide) (v := (.int eb)) rfl e62 (hb Y e51_51) (q := 52) rfl ?_
  have f71 := f66.trans (CHr.wr W62 (Safe.arv hZ0.alike Va59 (by decide)) f66.1)
  refine g_stC X62 hx hZ0 Va62 (i := 1) (by decide) (by decide) (by decide) (Nat.le_of_ble_eq_true rfl) (y := eb) (nar_of255 H1 J1) e62 (hb Y e51_52) (q := 53) rfl ?_
  intro T70 h70 X70 e70 W70 V70
  have N70 := Fr.snoc X70 N62 gz63
  have Va70 : Arv Z h70 b59 k59 .char (2 : Int32) [(.int ea), (.int eb)] (.int 0) := V70
  have f73 := f64.ext E59
  have f74 := f73.wr W62 gz63
  have f75 := f74.wr W70 gz63
  have gz76 : Z.heap.size ≤ b57 := Nat.le_trans O0.2.1 (Nat.le_of_eq g57.symm)
  have f77 := A57.ext E59
  have f78 := f77.wr W62
  have f79 := f78.wr W70
  have f80 := F57_12.ext E59
  have ne81 : b57 ≠ b59 := (Nat.ne_of_lt (Nat.lt_of_lt_of_le (Nat.lt_of_lt_of_le A57.lt (Nat.le_refl _)) (Nat.le_of_eq g59.symm)))
  have f82 := f80.other W62 (Or.inl ne81)
  have f83 := f82.other W70 (Or.inl ne81)
  have f84 := F57_13.ext E59
  have f85 := f84.other W62 (Or.inl ne81)
  have f86 := f85.other W70 (Or.inl ne81)
  refine g_sp X70 hx hZ0 hown0 (wd139 hw) (wd140 hw) (wd141 hw) rfl (by decide) e70 (StrChars.Road.backV (s := (s.setVm v0)) (W := 1) hZ0 (own_wStr hw) (kI := 4) (wd10 hw) (cs := ([ea, eb] : List Int32)) (bs := (([ea, eb] : List Int32).map (fun c => c.toInt8.toInt32))) (n := 2) gz76 f75.2.1 f79 f83 f86 Va70 (SC.ext f75.2) PC rfl rfl (by decide) (by decide) (alS ⟨H0, J0⟩ (alS ⟨H1, J1⟩ al0)) rfl (by decide) (by decide)) (a := b57) (argsL := [.ref b59]) (W := 1) (nk := 1) (ns := 2) (Qc := StrChars.Road.QV Z b57 (2 : Int32) (([ea, eb] : List Int32).map (fun c => c.toInt8.toInt32)) h70 Z.heap.size) (by rw [hml]; rfl) (lenOf pd36 rfl) rfl (Nat.le_of_eq rfl) (hb Y e51_53) (q := 56) rfl (by decide) (by decide) ?_
  intro v72 T72 L72 X72 Q72
  obtain ⟨rfl, Nq72, K72q, E72q, C72q, t72, kb72, tz72, tg72, tn72, Fv72, Va72⟩ := Q72
  have N72 := Fr.app N70 Nq72
  have Vb72 : Arv Z T72.heap t72 kb72 .byte (2 : Int32) [(.int (StrChars.lo8 ea)), (.int (StrChars.lo8 eb))] (.int 0) := Va72
  show Go _ _ _ _ (T72.setTop (mkF m 56 _ [(.ref b57)]))
  have K87 : Keep h0 h57 [] := (Keep.refl h0 []).ext E57
  have K88 : Keep h0 h59 [] := K87.ext E59
  have gh89 : h0.size ≤ b59 := Nat.le_trans le67 (Nat.le_of_eq g59.symm)
  have K90 : Keep h0 h62 [] := K88.wr W62 (Or.inr gh89)
  have K91 : Keep h0 h70 [] := K90.wr W70 (Or.inr gh89)
  have gh92 : h0.size ≤ b57 := Nat.le_trans (Nat.le_refl _) (Nat.le_of_eq g57.symm)
  have K93 : Keep h0 T72.heap [] := K91.trans K72q (allS (Or.inr gh92) all0)
  have f94 := f71.trans (CHr.wr W70 (Safe.arv hZ0.alike Va62 (by decide)) f71.1)
  have f95 := Safe.ext E57 C0.1 sf58
  have f96 := Safe.ext E59 f65.1 f95
  have f97 := Safe.wr W62 (Safe.arv hZ0.alike Va59 (by decide)) f66.1 f96
  have f98 := Safe.wr W70 (Safe.arv hZ0.alike Va62 (by decide)) f71.1 f97
  have f99 := f94.trans (CHr.keep K72q (sfS f98 sf0) f94.1)
  refine endC X72 hlk hS0 (Nat.zero_le _) hZ0 (own_EW hw) f99 (fun h => by rw [hret] at h; cases h) (lastA X72 hx hret rfl rfl rfl (hb Y e51_56)) ?_ (by decide) (by decide)
  refine ⟨b57, t72, kb72, ?_, ?_, ?_, ?_, ?_, ?_, ?_⟩
  ·exact rfl
  ·exact N72
  ·exact K93
  ·exact E72q
  ·exact C72q
  ·exact Fv72
  ·exact Vb72
 ·show Go _ _ _ _ (T0.setTop (mkF m 0 #[vr ae, vi 3] []))
  refine iL X0 hx (hb Y e51_0) (q := 1) rfl rfl ?_
  refine ifY X0 hx (hb Y e51_1) (q := 7) (by decide) (by decide) (by decide) ?_
  refine iL X0 hx (hb Y e51_7) (q := 8) rfl rfl ?_
  refine cI X0 hx (hb Y e51_8) (q := 9) rfl (z := 1) rfl ?_
  refine icY X0 hx (hb Y e51_9) (q := 29) (by decide) (by decide) (by decide) ?_
  refine iL X0 hx (hb Y e51_29) (q := 30) rfl rfl ?_
  refine cI X0 hx (hb Y e51_30) (q := 31) rfl (z := 2) rfl ?_
  refine icY X0 hx (hb Y e51_31) (q := 57) (by decide) (by decide) (by decide) ?_
  refine iL X0 hx (hb Y e51_57) (q := 58) rfl rfl ?_
  refine cI X0 hx (hb Y e51_58) (q := 59) rfl (z := 3) rfl ?_
  refine icN X0 hx (hb Y e51_59) (q := 62) rfl (by decide) ?_
  refine g_new X0 hx hZ0 hown0 (wd138 hw) (wd10 hw) (wd9 hw) (by decide) (by decide) e0 (hb Y e51_62) (q := 65) rfl ?_
  intro T100 h100 b100 g100 X100 e100 E100 A100 D100
  have sf101 : Safe Z EL v0 h0 b100 := Safe.new (Nat.le_of_eq g100.symm)
  have F100_12 := D100 (Or.inr (wd12 hw)) (ty := (.array .byte)) (by decide)
  have F100_13 := D100 (Or.inr (wd13 hw)) (ty := .byte) (by decide)
  refine g_dup X100 hx (hb Y e51_65) (q := 66) rfl rfl ?_
  refine cI X100 hx (hb Y e51_66) (q := 67) rfl (z := 3) rfl ?_
  refine g_newA X100 hx hZ0 (aty := .char) (wd4 hw) (by decide) (n := 3) (by decide) (by decide) (by decide) (by decide) e100 (hb Y e51_67) (q := 69) rfl ?_
  intro T102 h102 k102 b102 g102 X102 e102 E102 V102
  have Va102 : Arv Z h102 b102 k102 .char (3 : Int32) [(iv 0), (iv 0), (iv 0)] (.int 0) := V102
  refine g_dup X102 hx (hb Y e51_69) (q := 70) rfl rfl ?_
  refine cI X102 hx (hb Y e51_70) (q := 71) rfl (z := 0) rfl ?_
  refine aL X102 hx (hb Y e51_71) (q := 72) rfl rfl rfl ?_
  refine cI X102 hx (hb Y e51_72) (q := 73) rfl (z := 0) rfl ?_
  have f103 := Pe.ext E100
  have f104 := f103.ext E102
  refine g_ldC X102 hx hZ0 f104 (i := 0) (by decide) (by decide) (by decide) (v := (.int ea)) rfl e102 (hb Y e51_73) (q := 74) rfl ?_
  have f107 := O0.ext E100
  have gz106 : Z.heap.size ≤ b102 := Nat.le_trans f107.2.1 (Nat.le_of_eq g102.symm)
  have f108 := C0.trans (CHr.ext E100 C0.1)
  have f109 := f108.trans (CHr.ext E102 f108.1)
  refine g_stC X102 hx hZ0 Va102 (i := 0) (by decide) (by decide) (by decide) (Nat.le_of_ble_eq_true rfl) (y := ea) (nar_of255 H0 J0) e102 (hb Y e51_74) (q := 75) rfl ?_
  intro T105 h105 X105 e105 W105 V105
  have N105 := Fr.snoc X105 N0 gz106
  have Va105 : Arv Z h105 b102 k102 .char (3 : Int32) [(.int ea), (iv 0), (iv 0)] (.int 0) := V105
  refine g_dup X105 hx (hb Y e51_75) (q := 76) rfl rfl ?_
  refine cI X105 hx (hb Y e51_76) (q := 77) rfl (z := 1) rfl ?_
  refine aL X105 hx (hb Y e51_77) (q := 78) rfl rfl rfl ?_
  refine cI X105 hx (hb Y e51_78) (q := 79) rfl (z := 1) rfl ?_
  have le110 := E100.1
  have ne111 : ae ≠ b102 := (Nat.ne_of_lt (Nat.lt_of_lt_of_le (Nat.lt_of_lt_of_le Pe.lt le110) (Nat.le_of_eq g102.symm)))
  have f112 := f104.other W105 ne111
  refine g_ldC X105 hx hZ0 f112 (i := 1) (by decide) (by decide) (by decide) (v := (.int eb)) rfl e105 (hb Y e51_79) (q := 80) rfl ?_
  have f114 := f109.trans (CHr.wr W105 (Safe.arv hZ0.alike Va102 (by decide)) f109.1)
  refine g_stC X105 hx hZ0 Va105 (i := 1) (by decide) (by decide) (by decide) (Nat.le_of_ble_eq_true rfl) (y := eb) (nar_of255 H1 J1) e105 (hb Y e51_80) (q := 81) rfl ?_
  intro T113 h113 X113 e113 W113 V113
  have N113 := Fr.snoc X113 N105 gz106
  have Va113 : Arv Z h113 b102 k102 .char (3 : Int32) [(.int ea), (.int eb), (iv 0)] (.int 0) := V113
  refine g_dup X113 hx (hb Y e51_81) (q := 82) rfl rfl ?_
  refine cI X113 hx (hb Y e51_82) (q := 83) rfl (z := 2) rfl ?_
  refine aL X113 hx (hb Y e51_83) (q := 84) rfl rfl rfl ?_
  refine cI X113 hx (hb Y e51_84) (q := 85) rfl (z := 2) rfl ?_
  have f115 := f112.other W113 ne111
  refine g_ldC X113 hx hZ0 f115 (i := 2) (by decide) (by decide) (by decide) (v := (.int ec)) rfl e113 (hb Y e51_85) (q := 86) rfl ?_
  have f117 := f114.trans (CHr.wr W113 (Safe.arv hZ0.alike Va105 (by decide)) f114.1)
  refine g_stC X113 hx hZ0 Va113 (i := 2) (by decide) (by decide) (by decide) (Nat.le_of_ble_eq_true rfl) (y := ec) (nar_of255 H2 J2) e113 (hb Y e51_86) (q := 87) rfl ?_
  intro T116 h116 X116 e116 W116 V116
  have N116 := Fr.snoc X116 N113 gz106
  have Va116 : Arv Z h116 b102 k102 .char (3 : Int32) [(.int ea), (.int eb), (.int ec)] (.int 0) := V116
  have f119 := f107.ext E102
  have f120 := f119.wr W105 gz106
  have f121 := f120.wr W113 gz106
  have f122 := f121.wr W116 gz106
  have gz123 : Z.heap.size ≤ b100 := Nat.le_trans O0.2.1 (Nat.le_of_eq g100.symm)
  have f124 := A100.ext E102
  have f125 := f124.wr W105
  have f126 := f125.wr W113
  have f127 := f126.wr W116
  have f128 := F100_12.ext E102
  have ne129 : b100 ≠ b102 := (Nat.ne_of_lt (Nat.lt_of_lt_of_le (Nat.lt_of_lt_of_le A100.lt (Nat.le_refl _)) (Nat.le_of_eq g102.symm)))
  have f130 := f128.other W105 (Or.inl ne129)
  have f131 := f130.other W113 (Or.inl ne129)
  have f132 := f131.other W116 (Or.inl ne129)
  have f133 := F100_13.ext E102
  have f134 := f133.other W105 (Or.inl ne129)
  have f135 := f134.other W113 (Or.inl ne129)
  have f136 := f135.other W116 (Or.inl ne129)
  refine g_sp X116 hx hZ0 hown0 (wd139 hw) (wd140 hw) (wd141 hw) rfl (by decide) e116 (StrChars.Road.backV (s := (s.setVm v0)) (W := 1) hZ0 (own_wStr hw) (kI := 4) (wd10 hw) (cs := ([ea, eb, ec] : List Int32)) (bs := (([ea, eb, ec] : List Int32).map (fun c => c.toInt8.toInt32))) (n := 3) gz123 f122.2.1 f127 f132 f136 Va116 (SC.ext f122.2) PC rfl rfl (by decide) (by decide) (alS ⟨H0, J0⟩ (alS ⟨H1, J1⟩ (alS ⟨H2, J2⟩ al0))) rfl (by decide) (by decide)) (a := b100) (argsL := [.ref b102]) (W := 1) (nk := 1) (ns := 3) (Qc := StrChars.Road.QV Z b100 (3 : Int32) (([ea, eb, ec] : List Int32).map (fun c => c.toInt8.toInt32)) h116 Z.heap.size) (by rw [hml]; rfl) (lenOf pd36 rfl) rfl (Nat.le_of_eq rfl) (hb Y e51_87) (q := 90) rfl (by decide) (by decide) ?_
  intro v118 T118 L118 X118 Q118
  obtain ⟨rfl, Nq118, K118q, E118q, C118q, t118, kb118, tz118, tg118, tn118, Fv118, Va118⟩ := Q118
  have N118 := Fr.app N116 Nq118
  have Vb118 : Arv Z T118.heap t118 kb118 .byte (3 : Int32) [(.int (StrChars.lo8 ea)), (.int (StrChars.lo8 eb)), (.int (StrChars.lo8 ec))] (.int 0) := Va118
  show Go _ _ _ _ (T118.setTop (mkF m 90 _ [(.ref b100)]))
  have K137 : Keep h0 h100 [] := (Keep.refl h0 []).ext E100
  have K138 : Keep h0 h102 [] := K137.ext E102
  have gh139 : h0.size ≤ b102 := Nat.le_trans le110 (Nat.le_of_eq g102.symm)
  have K140 : Keep h0 h105 [] := K138.wr W105 (Or.inr gh139)
  have K141 : Keep h0 h113 [] := K140.wr W113 (Or.inr gh139)
  have K142 : Keep h0 h116 [] := K141.wr W116 (Or.inr gh139)
  have gh143 : h0.size ≤ b100 := Nat.le_trans (Nat.le_refl _) (Nat.le_of_eq g100.symm)
  have K144 : Keep h0 T118.heap [] := K142.trans K118q (allS (Or.inr gh143) all0)
  have f145 := f117.trans (CHr.wr W116 (Safe.arv hZ0.alike Va113 (by decide)) f117.1)
  have f146 := Safe.ext E100 C0.1 sf101
  have f147 := Safe.ext E102 f108.1 f146
  have f148 := Safe.wr W105 (Safe.arv hZ0.alike Va102 (by decide)) f109.1 f147
  have f149 := Safe.wr W113 (Safe.arv hZ0.alike Va105 (by decide)) f114.1 f148
  have f150 := Safe.wr W116 (Safe.arv hZ0.alike Va113 (by decide)) f117.1 f149
  have f151 := f145.trans (CHr.keep K118q (sfS f150 sf0) f145.1)
  refine endC X118 hlk hS0 (Nat.zero_le _) hZ0 (own_EW hw) f151 (fun h => by rw [hret] at h; cases h) (lastA X118 hx hret rfl rfl rfl (hb Y e51_90)) ?_ (by decide) (by decide)
  refine ⟨b100, t118, kb118, ?_, ?_, ?_, ?_, ?_, ?_, ?_⟩
  ·exact rfl
  ·exact N118
  ·exact K144
  ·exact E118q
  ·exact C118q
  ·exact Fv118
  ·exact Vb118
 ·show Go _ _ _ _ (T0.setTop (mkF m 0 #[vr ae, vi 4] []))
  refine iL X0 hx (hb Y e51_0) (q := 1) rfl rfl ?_
  refine ifY X0 hx (hb Y e51_1) (q := 7) (by decide) (by decide) (by decide) ?_
  refine iL X0 hx (hb Y e51_7) (q := 8) rfl rfl ?_
  refine cI X0 hx (hb Y e51_8) (q := 9) rfl (z := 1) rfl ?_
  refine icY X0 hx (hb Y e51_9) (q := 29) (by decide) (by decide) (by decide) ?_
  refine iL X0 hx (hb Y e51_29) (q := 30) rfl rfl ?_
  refine cI X0 hx (hb Y e51_30) (q := 31) rfl (z := 2) rfl ?_
  refine icY X0 hx (hb Y e51_31) (q := 57) (by decide) (by decide) (by decide) ?_
  refine iL X0 hx (hb Y e51_57) (q := 58) rfl rfl ?_
  refine cI X0 hx (hb Y e51_58) (q := 59) rfl (z := 3) rfl ?_
  refine icY X0 hx (hb Y e51_59) (q := 91) (by decide) (by decide) (by decide) ?_
  refine iL X0 hx (hb Y e51_91) (q := 92) rfl rfl ?_
  refine cI X0 hx (hb Y e51_92) (q := 93) rfl (z := 4) rfl ?_
  refine icN X0 hx (hb Y e51_93) (q := 96) rfl (by decide) ?_
  refine g_new X0 hx hZ0 hown0 (wd138 hw) (wd10 hw) (wd9 hw) (by decide) (by decide) e0 (hb Y e51_96) (q := 99) rfl ?_
  intro T152 h152 b152 g152 X152 e152 E152 A152 D152
  have sf153 : Safe Z EL v0 h0 b152 := Safe.new (Nat.le_of_eq g152.symm)
  have F152_12 := D152 (Or.inr (wd12 hw)) (ty := (.array .byte)) (by decide)
  have F152_13 := D152 (Or.inr (wd13 hw)) (ty := .byte) (by decide)
  refine g_dup X152 hx (hb Y e51_99) (q := 100) rfl rfl ?_
  refine cI X152 hx (hb Y e51_100) (q := 101) rfl (z := 4) rfl ?_
  refine g_newA X152 hx hZ0 (aty := .char) (wd4 hw) (by decide) (n := 4) (by decide) (by decide) (by decide) (by decide) e152 (hb Y e51_101) (q := 103) rfl ?_
  intro T154 h154 k154 b154 g154 X154 e154 E154 V154
  have Va154 : Arv Z h154 b154 k154 .char (4 : Int32) [(iv 0), (iv 0), (iv 0), (iv 0)] (.int 0) := V154
  refine g_dup X154 hx (hb Y e51_103) (q := 104) rfl rfl ?_
  refine cI X154 hx (hb Y e51_104) (q := 105) rfl (z := 0) rfl ?_
  refine aL X154 hx (hb Y e51_105) (q := 106) rfl rfl rfl ?_
  refine cI X154 hx (hb Y e51_106) (q := 107) rfl (z := 0) rfl ?_
  have f155 := Pe.ext E152
  have f156 := f155.ext E154
  refine g_ldC X154 hx hZ0 f156 (i := 0) (by decide) (by decide) (by decide) (v := (.int ea)) rfl e154 (hb Y e51_107) (q := 108) rfl ?_
  have f159 := O0.ext E152
  have gz158 : Z.heap.size ≤ b154 := Nat.le_trans f159.2.1 (Nat.le_of_eq g154.symm)
  have f160 := C0.trans (CHr.ext E152 C0.1)
  have f161 := f160.trans (CHr.ext E154 f160.1)
  refine g_stC X154 hx hZ0 Va154 (i := 0) (by decide) (by decide) (by decide) (Nat.le_of_ble_eq_true rfl) (y := ea) (nar_of255 H0 J0) e154 (hb Y e51_108) (q := 109) rfl ?_
  intro T157 h157 X157 e157 W157 V157
  have N157 := Fr.snoc X157 N0 gz158
  have Va157 : Arv Z h157 b154 k154 .char (4 : Int32) [(.int ea), (iv 0), (iv 0), (iv 0)] (.int 0) := V157
  refine g_dup X157 hx (hb Y e51_109) (q := 110) rfl rfl ?_
  refine cI X157 hx (hb Y e51_110) (q := 111) rfl (z := 1) rfl ?_
  refine aL X157 hx (hb Y e51_111) (q := 112) rfl rfl rfl ?_
  refine cI X157 hx (hb Y e51_112) (q := 113) rfl (z := 1) rfl ?_
  have le162 := E152.1
  have ne163 : ae ≠ b154 := (Nat.ne_of_lt (Nat.lt_of_lt_of_le (Nat.lt_of_lt_of_le Pe.lt le162) (Nat.le_of_eq g154.symm)))
  have f164 := f156.other W157 ne163
  refine g_ldC X157 hx hZ0 f164 (i := 1) (by decide) (by decide) (by decide) (v := (.int eb)) rfl e157 (hb Y e51_113) (q := 114) rfl ?_
  have f166 := f161.trans (CHr.wr W157 (Safe.arv hZ0.alike Va154 (by decide)) f161.1)
  refine g_stC X157 hx hZ0 Va157 (i := 1) (by decide) (by decide) (by decide) (Nat.le_of_ble_eq_true rfl) (y := eb) (nar_of255 H1 J1) e157 (hb Y e51_114) (q := 115) rfl ?_
  intro T165 h165 X165 e165 W165 V165
  have N165 := Fr.snoc X165 N157 gz158
  have Va165 : Arv Z h165 b154 k154 .char (4 : Int32) [(.int ea), (.int eb), (iv 0), (iv 0)] (.int 0) := V165
  refine g_dup X165 hx (hb Y e51_115) (q := 116) rfl rfl ?_
  refine cI X165 hx (hb Y e51_116) (q := 117) rfl (z := 2) rfl ?_
  refine aL X165 hx (hb Y e51_117) (q := 118) rfl rfl rfl ?_
  refine cI X165 hx (hb Y e51_118) (q := 119) rfl (z := 2) rfl ?_
  have f167 := f164.other W165 ne163
  refine g_ldC X165 hx hZ0 f167 (i := 2) (by decide) (by decide) (by decide) (v := (.int ec)) rfl e165 (hb Y e51_119) (q := 120) rfl ?_
  have f169 := f166.trans (CHr.wr W165 (Safe.arv hZ0.alike Va157 (by decide)) f166.1)
  refine g_stC X165 hx hZ0 Va165 (i := 2) (by decide) (by decide) (by decide) (Nat.le_of_ble_eq_true rfl) (y := ec) (nar_of255 H2 J2) e165 (hb Y e51_120) (q := 121) rfl ?_
  intro T168 h168 X168 e168 W168 V168
  have N168 := Fr.snoc X168 N165 gz158
  have Va168 : Arv Z h168 b154 k154 .char (4 : Int32) [(.int ea), (.int eb), (.int ec), (iv 0)] (.int 0) := V168
  refine g_dup X168 hx (hb Y e51_121) (q := 122) rfl rfl ?_
  refine cI X168 hx (hb Y e51_122) (q := 123) rfl (z := 3) rfl ?_
  refine aL X168 hx (hb Y e51_123) (q := 124) rfl rfl rfl ?_
  refine cI X168 hx (hb Y e51_124) (q := 125) rfl (z := 3) rfl ?_
  have f170 := f167.other W168 ne163
  refine g_ldC X168 hx hZ0 f170 (i := 3) (by decide) (by decide) (by decide) (v := (.int ed)) rfl e168 (hb Y e51_125) (q := 126) rfl ?_
  have f172 := f169.trans (CHr.wr W168 (Safe.arv hZ0.alike Va165 (by decide)) f169.1)
  refine g_stC X168 hx hZ0 Va168 (i := 3) (by decide) (by decide) (by decide) (Nat.le_of_ble_eq_true rfl) (y := ed) (nar_of255 H3 J3) e168 (hb Y e51_126) (q := 127) rfl ?_
  intro T171 h171 X171 e171 W171 V171
  have N171 := Fr.snoc X171 N168 gz158
  have Va171 : Arv Z h171 b154 k154 .char (4 : Int32) [(.int ea), (.int eb), (.int ec), (.int ed)] (.int 0) := V171
  have f174 := f159.ext E154
  have f175 := f174.wr W157 gz158
  have f176 := f175.wr W165 gz158
  have f177 := f176.wr W168 gz158
  have f178 := f177.wr W171 gz158
  have gz179 : Z.heap.size ≤ b152 := Nat.le_trans O0.2.1 (Nat.le_of_eq g152.symm)
  have K180 := (Keep.refl h152 []).ext E154
  have K181 := K180.wr W157 (Or.inr (Nat.le_trans (Nat.le_refl _) (Nat.le_of_eq g154.symm)))
  have K182 := K181.wr W165 (Or.inr (Nat.le_trans (Nat.le_refl _) (Nat.le_of_eq g154.symm)))
  have K183 := K182.wr W168 (Or.inr (Nat.le_trans (Nat.le_refl _) (Nat.le_of_eq g154.symm)))
  have K184 := K183.wr W171 (Or.inr (Nat.le_trans (Nat.le_refl _) (Nat.le_of_eq g154.symm)))
  have f185 := A152.keep K184
  have f186 := F152_12.keep K184 nin0
  have f187 := F152_13.keep K184 nin0
  refine g_sp X171 hx hZ0 hown0 (wd139 hw) (wd140 hw) (wd141 hw) rfl (by decide) e171 (StrChars.Road.backV (s := (s.setVm v0)) (W := 1) hZ0 (own_wStr hw) (kI := 4) (wd10 hw) (cs := ([ea, eb, ec, ed] : List Int32)) (bs := (([ea, eb, ec, ed] : List Int32).map (fun c => c.toInt8.toInt32))) (n := 4) gz179 f178.2.1 f185 f186 f187 Va171 (SC.ext f178.2) PC rfl rfl (by decide) (by decide) (alS ⟨H0, J0⟩ (alS ⟨H1, J1⟩ (alS ⟨H2, J2⟩ (alS ⟨H3, J3⟩ al0)))) rfl (by decide) (by decide)) (a := b152) (argsL := [.ref b154]) (W := 1) (nk := 1) (ns := 4) (Qc := StrChars.Road.QV Z b152 (4 : Int32) (([ea, eb, ec, ed] : List Int32).map (fun c => c.toInt8.toInt32)) h171 Z.heap.size) (by rw [hml]; rfl) (lenOf pd36 rfl) rfl (Nat.le_of_eq rfl) (hb Y e51_127) (q := 130) rfl (by decide) (by decide) ?_
  intro v173 T173 L173 X173 Q173
  obtain ⟨rfl, Nq173, K173q, E173q, C173q, t173, kb173, tz173, tg173, tn173, Fv173, Va173⟩ := Q173
  have N173 := Fr.app N171 Nq173
  have Vb173 : Arv Z T173.heap t173 kb173 .byte (4 : Int32) [(.int (StrChars.lo8 ea)), (.int (StrChars.lo8 eb)), (.int (StrChars.lo8 ec)), (.int (StrChars.lo8 ed))] (.int 0) := Va173
  show Go _ _ _ _ (T173.setTop (mkF m 130 _ [(.ref b152)]))
  have K188 : Keep h0 h152 [] := (Keep.refl h0 []).ext E152
  have K189 : Keep h0 h154 [] := K188.ext E154
  have gh190 : h0.size ≤ b154 := Nat.le_trans le162 (Nat.le_of_eq g154.symm)
  have K191 : Keep h0 h157 [] := K189.wr W157 (Or.inr gh190)
  have K192 : Keep h0 h165 [] := K191.wr W165 (Or.inr gh190)
  have K193 : Keep h0 h168 [] := K192.wr W168 (Or.inr gh190)
  have K194 : Keep h0 h171 [] := K193.wr W171 (Or.inr gh190)
  have gh195 : h0.size ≤ b152 := Nat.le_trans (Nat.le_refl _) (Nat.le_of_eq g152.symm)
  have K196 : Keep h0 T173.heap [] := K194.trans K173q (allS (Or.inr gh195) all0)
  have f197 := f172.trans (CHr.wr W171 (Safe.arv hZ0.alike Va168 (by decide)) f172.1)
  have f198 := Safe.ext E152 C0.1 sf153
  have f199 := Safe.ext E154 f160.1 f198
  have f200 := Safe.wr W157 (Safe.arv hZ0.alike Va154 (by decide)) f161.1 f199
  have f201 := Safe.wr W165 (Safe.arv hZ0.alike Va157 (by decide)) f166.1 f200
  have f202 := Safe.wr W168 (Safe.arv hZ0.alike Va165 (by decide)) f169.1 f201
  have f203 := Safe.wr W171 (Safe.arv hZ0.alike Va168 (by decide)) f172.1 f202
  have f204 := f197.trans (CHr.keep K173q (sfS f203 sf0) f197.1)
  refine endC X173 hlk hS0 (Nat.zero_le _) hZ0 (own_EW hw) f204 (fun h => by rw [hret] at h; cases h) (lastA X173 hx hret rfl rfl rfl (hb Y e51_130)) ?_ (by decide) (by decide)
  refine ⟨b152, t173, kb173, ?_, ?_, ?_, ?_, ?_, ?_, ?_⟩
  ·exact rfl
  ·exact N173
  ·exact K196
  ·exact E173q
  ·exact C173q
  ·exact Fv173
  ·exact Vb173
 ·show Go _ _ _ _ (T0.setTop (mkF m 0 #[vr ae, vi 5] []))
  refine iL X0 hx (hb Y e51_0) (q := 1) rfl rfl ?_
  refine ifY X0 hx (hb Y e51_1) (q := 7) (by decide) (by decide) (by decide) ?_
  refine iL X0 hx (hb Y e51_7) (q := 8) rfl rfl ?_
  refine cI X0 hx (hb Y e51_8) (q := 9) rfl (z := 1) rfl ?_
  refine icY X0 hx (hb Y e51_9) (q := 29) (by decide) (by decide) (by decide) ?_
  refine iL X0 hx (hb Y e51_29) (q := 30) rfl rfl ?_
  refine cI X0 hx (hb Y e51_30) (q := 31) rfl (z := 2) rfl ?_
  refine icY X0 hx (hb Y e51_31) (q := 57) (by decide) (by decide) (by decide) ?_
  refine iL X0 hx (hb Y e51_57) (q := 58) rfl rfl ?_
  refine cI X0 hx (hb Y e51_58) (q := 59) rfl (z := 3) rfl ?_
  refine icY X0 hx (hb Y e51_59) (q := 91) (by decide) (by decide) (by decide) ?_
  refine iL X0 hx (hb Y e51_91) (q := 92) rfl rfl ?_
  refine cI X0 hx (hb Y e51_92) (q := 93) rfl (z := 4) rfl ?_
  refine icY X0 hx (hb Y e51_93) (q := 131) (by decide) (by decide) (by decide) ?_
  refine g_new X0 hx hZ0 hown0 (wd138 hw) (wd10 hw) (wd9 hw) (by decide) (by decide) e0 (hb Y e51_131) (q := 134) rfl ?_
  intro T205 h205 b205 g205 X205 e205 E205 A205 D205
  have sf206 : Safe Z EL v0 h0 b205 := Safe.new (Nat.le_of_eq g205.symm)
  have F205_12 := D205 (Or.inr (wd12 hw)) (ty := (.array .byte)) (by decide)
  have F205_13 := D205 (Or.inr (wd13 hw)) (ty := .byte) (by decide)
  refine g_dup X205 hx (hb Y e51_134) (q := 135) rfl rfl ?_
  refine cI X205 hx (hb Y e51_135) (q := 136) rfl (z := 5) rfl ?_
  refine g_newA X205 hx hZ0 (aty := .char) (wd4 hw) (by decide) (n := 5) (by decide) (by decide) (by decide) (by decide) e205 (hb Y e51_136) (q := 138) rfl ?_
  intro T207 h207 k207 b207 g207 X207 e207 E207 V207
  have Va207 : Arv Z h207 b207 k207 .char (5 : Int32) [(iv 0), (iv 0), (iv 0), (iv 0), (iv 0)] (.int 0) := V207
  refine g_dup X207 hx (hb Y e51_138) (q := 139) rfl rfl ?_
  refine cI X207 hx (hb Y e51_139) (q := 140) rfl (z := 0) rfl ?_
  refine aL X207 hx (hb Y e51_140) (q := 141) rfl rfl rfl ?_
  refine cI X207 hx (hb Y e51_141) (q := 142) rfl (z := 0) rfl ?_
  have f208 := Pe.ext E205
  have f209 := f208.ext E207
  refine g_ldC X207 hx hZ0 f209 (i := 0) (by decide) (by decide) (by decide) (v := (.int ea)) rfl e207 (hb Y e51_142) (q := 143) rfl ?_
  have f212 := O0.ext E205
  have gz211 : Z.heap.size ≤ b207 := Nat.le_trans f212.2.1 (Nat.le_of_eq g207.symm)
  have f213 := C0.trans (CHr.ext E205 C0.1)
  have f214 := f213.trans (CHr.ext E207 f213.1)
  refine g_stC X207 hx hZ0 Va207 (i := 0) (by decide) (by decide) (by decide) (Nat.le_of_ble_eq_true rfl) (y := ea) (nar_of255 H0 J0) e207 (hb Y e51_143) (q := 144) rfl ?_
  intro T210 h210 X210 e210 W210 V210
  have N210 := Fr.snoc X210 N0 gz211
  have Va210 : Arv Z h210 b207 k207 .char (5 : Int32) [(.int ea), (iv 0), (iv 0), (iv 0), (iv 0)] (.int 0) := V210
  refine g_dup X210 hx (hb Y e51_144) (q := 145) rfl rfl ?_
  refine cI X210 hx (hb Y e51_145) (q := 146) rfl (z := 1) rfl ?_
  refine aL X210 hx (hb Y e51_146) (q := 147) rfl rfl rfl ?_
  refine cI X210 hx (hb Y e51_147) (q := 148) rfl (z := 1) rfl ?_
  have le215 := E205.1
  have ne216 : ae ≠ b207 := (Nat.ne_of_lt (Nat.lt_of_lt_of_le (Nat.lt_of_lt_of_le Pe.lt le215) (Nat.le_of_eq g207.symm)))
  have f217 := f209.other W210 ne216
  refine g_ldC X210 hx hZ0 f217 (i := 1) (by decide) (by decide) (by decide) (v := (.int eb)) rfl e210 (hb Y e51_148) (q := 149) rfl ?_
  have f219 := f214.trans (CHr.wr W210 (Safe.arv hZ0.alike Va207 (by decide)) f214.1)
  refine g_stC X210 hx hZ0 Va210 (i := 1) (by decide) (by decide) (by decide) (Nat.le_of_ble_eq_true rfl) (y := eb) (nar_of255 H1 J1) e210 (hb Y e51_149) (q := 150) rfl ?_
  intro T218 h218 X218 e218 W218 V218
  have N218 := Fr.snoc X218 N210 gz211
  have Va218 : Arv Z h218 b207 k207 .char (5 : Int32) [(.int ea), (.int eb), (iv 0), (iv 0), (iv 0)] (.int 0) := V218
  refine g_dup X218 hx (hb Y e51_150) (q := 151) rfl rfl ?_
  refine cI X218 hx (hb Y e51_151) (q := 152) rfl (z := 2) rfl ?_
  refine aL X218 hx (hb Y e51_152) (q := 153) rfl rfl rfl ?_
  refine cI X218 hx (hb Y e51_153) (q := 154) rfl (z := 2) rfl ?_
  have f220 := f217.other W218 ne216
  refine g_ldC X218 hx hZ0 f220 (i := 2) (by decide) (by decide) (by decide) (v := (.int ec)) rfl e218 (hb Y e51_154) (q := 155) rfl ?_
  have f222 := f219.trans (CHr.wr W218 (Safe.arv hZ0.alike Va210 (by decide)) f219.1)
  refine g_stC X218 hx hZ0 Va218 (i := 2) (by decide) (by decide) (by decide) (Nat.le_of_ble_eq_true rfl) (y := ec) (nar_of255 H2 J2) e218 (hb Y e51_155) (q := 156) rfl ?_
  intro T221 h221 X221 e221 W221 V221
  have N221 := Fr.snoc X221 N218 gz211
  have Va221 : Arv Z h221 b207 k207 .char (5 : Int32) [(.int ea), (.int eb), (.int ec), (iv 0), (iv 0)] (.int 0) := V221
  refine g_dup X221 hx (hb Y e51_156) (q := 157) rfl rfl ?_
  refine cI X221 hx (hb Y e51_157) (q := 158) rfl (z := 3) rfl ?_
  refine aL X221 hx (hb Y e51_158) (q := 159) rfl rfl rfl ?_
  refine cI X221 hx (hb Y e51_159) (q := 160) rfl (z := 3) rfl ?_
  have f223 := f220.other W221 ne216
  refine g_ldC X221 hx hZ0 f223 (i := 3) (by decide) (by decide) (by decide) (v := (.int ed)) rfl e221 (hb Y e51_160) (q := 161) rfl ?_
  have f225 := f222.trans (CHr.wr W221 (Safe.arv hZ0.alike Va218 (by decide)) f222.1)
  refine g_stC X221 hx hZ0 Va221 (i := 3) (by decide) (by decide) (by decide) (Nat.le_of_ble_eq_true rfl) (y := ed) (nar_of255 H3 J3) e221 (hb Y e51_161) (q := 162) rfl ?_
  intro T224 h224 X224 e224 W224 V224
  have N224 := Fr.snoc X224 N221 gz211
  have Va224 : Arv Z h224 b207 k207 .char (5 : Int32) [(.int ea), (.int eb), (.int ec), (.int ed), (iv 0)] (.int 0) := V224
  refine g_dup X224 hx (hb Y e51_162) (q := 163) rfl rfl ?_
  refine cI X224 hx (hb Y e51_163) (q := 164) rfl (z := 4) rfl ?_
  refine aL X224 hx (hb Y e51_164) (q := 165) rfl rfl rfl ?_
  refine cI X224 hx (hb Y e51_165) (q := 166) rfl (z := 4) rfl ?_
  have f226 := f223.other W224 ne216
  refine g_ldC X224 hx hZ0 f226 (i := 4) (by decide) (by decide) (by decide) (v := (.int ee)) rfl e224 (hb Y e51_166) (q := 167) rfl ?_
  have f228 := f225.trans (CHr.wr W224 (Safe.arv hZ0.alike Va221 (by decide)) f225.1)
  refine g_stC X224 hx hZ0 Va224 (i := 4) (by decide) (by decide) (by decide) (Nat.le_of_ble_eq_true rfl) (y := ee) (nar_of255 H4 J4) e224 (hb Y e51_167) (q := 168) rfl ?_
  intro T227 h227 X227 e227 W227 V227
  have N227 := Fr.snoc X227 N224 gz211
  have Va227 : Arv Z h227 b207 k207 .char (5 : Int32) [(.int ea), (.int eb), (.int ec), (.int ed), (.int ee)] (.int 0) := V227
  have f230 := f212.ext E207
  have f231 := f230.wr W210 gz211
  have f232 := f231.wr W218 gz211
  have f233 := f232.wr W221 gz211
  have f234 := f233.wr W224 gz211
  have f235 := f234.wr W227 gz211
  have gz236 : Z.heap.size ≤ b205 := Nat.le_trans O0.2.1 (Nat.le_of_eq g205.symm)
  have K237 := (Keep.refl h205 []).ext E207
  have K238 := K237.wr W210 (Or.inr (Nat.le_trans (Nat.le_refl _) (Nat.le_of_eq g207.symm)))
  have K239 := K238.wr W218 (Or.inr (Nat.le_trans (Nat.le_refl _) (Nat.le_of_eq g207.symm)))
  have K240 := K239.wr W221 (Or.inr (Nat.le_trans (Nat.le_refl _) (Nat.le_of_eq g207.symm)))
  have K241 := K240.wr W224 (Or.inr (Nat.le_trans (Nat.le_refl _) (Nat.le_of_eq g207.symm)))
  have K242 := K241.wr W227 (Or.inr (Nat.le_trans (Nat.le_refl _) (Nat.le_of_eq g207.symm)))
  have f243 := A205.keep K242
  have f244 := F205_12.keep K242 nin0
  have f245 := F205_13.keep K242 nin0
  refine g_sp X227 hx hZ0 hown0 (wd139 hw) (wd140 hw) (wd141 hw) rfl (by decide) e227 (StrChars.Road.backV (s := (s.setVm v0)) (W := 1) hZ0 (own_wStr hw) (kI := 4) (wd10 hw) (cs := ([ea, eb, ec, ed, ee] : List Int32)) (bs := (([ea, eb, ec, ed, ee] : List Int32).map (fun c => c.toInt8.toInt32))) (n := 5) gz236 f235.2.1 f243 f244 f245 Va227 (SC.ext f235.2) PC rfl rfl (by decide) (by decide) (alS ⟨H0, J0⟩ (alS ⟨H1, J1⟩ (alS ⟨H2, J2⟩ (alS ⟨H3, J3⟩ (alS ⟨H4, J4⟩ al0))))) rfl (by decide) (by decide)) (a := b205) (argsL := [.ref b207]) (W := 1) (nk := 1) (ns := 5) (Qc := StrChars.Road.QV Z b205 (5 : Int32) (([ea, eb, ec, ed, ee] : List Int32).map (fun c => c.toInt8.toInt32)) h227 Z.heap.size) (by rw [hml]; rfl) (lenOf pd36 rfl) rfl (Nat.le_of_eq rfl) (hb Y e51_168) (q := 171) rfl (by decide) (by decide) ?_
  intro v229 T229 L229 X229 Q229
  obtain ⟨rfl, Nq229, K229q, E229q, C229q, t229, kb229, tz229, tg229, tn229, Fv229, Va229⟩ := Q229
  have N229 := Fr.app N227 Nq229
  have Vb229 : Arv Z T229.heap t229 kb229 .byte (5 : Int32) [(.int (StrChars.lo8 ea)), (.int (StrChars.lo8 eb)), (.int (StrChars.lo8 ec)), (.int (StrChars.lo8 ed)), (.int (StrChars.lo8 ee))] (.int 0) := Va229
  show Go _ _ _ _ (T229.setTop (mkF m 171 _ [(.ref b205)]))
  have K246 : Keep h0 h205 [] := (Keep.refl h0 []).ext E205
  have K247 : Keep h0 h207 [] := K246.ext E207
  have gh248 : h0.size ≤ b207 := Nat.le_trans le215 (Nat.le_of_eq g207.symm)
  have K249 : Keep h0 h210 [] := K247.wr W210 (Or.inr gh248)
  have K250 : Keep h0 h218 [] := K249.wr W218 (Or.inr gh248)
  have K251 : Keep h0 h221 [] := K250.wr W221 (Or.inr gh248)
  have K252 : Keep h0 h224 [] := K251.wr W224 (Or.inr gh248)
  have K253 : Keep h0 h227 [] := K252.wr W227 (Or.inr gh248)
  have gh254 : h0.size ≤ b205 := Nat.le_trans (Nat.le_refl _) (Nat.le_of_eq g205.symm)
  have K255 : Keep h0 T229.heap [] := K253.trans K229q (allS (Or.inr gh254) all0)
  have f256 := f228.trans (CHr.wr W227 (Safe.arv hZ0.alike Va224 (by decide)) f228.1)
  have f257 := Safe.ext E205 C0.1 sf206
  have f258 := Safe.ext E207 f213.1 f257
  have f259 := Safe.wr W210 (Safe.arv hZ0.alike Va207 (by decide)) f214.1 f258
  have f260 := Safe.wr W218 (Safe.arv hZ0.alike Va210 (by decide)) f219.1 f259
  have f261 := Safe.wr W221 (Safe.arv hZ0.alike Va218 (by decide)) f222.1 f260
  have f262 := Safe.wr W224 (Safe.arv hZ0.alike Va221 (by decide)) f225.1 f261
  have f263 := Safe.wr W227 (Safe.arv hZ0.alike Va224 (by decide)) f228.1 f262
  have f264 := f256.trans (CHr.keep K229q (sfS f263 sf0) f256.1)
  refine endC X229 hlk hS0 (Nat.zero_le _) hZ0 (own_EW hw) f264 (fun h => by rw [hret] at h; cases h) (lastA X229 hx hret rfl rfl rfl (hb Y e51_171)) ?_ (by decide) (by decide)
  refine ⟨b205, t229, kb229, ?_, ?_, ?_, ?_, ?_, ?_, ?_⟩
  ·exact rfl
  ·exact N229
  ·exact K255
  ·exact E229q
  ·exact C229q
  ·exact Fv229
  ·exact Vb229
theorem e52_0 : Dc kC57 0 (.iload_n 2) 1 := by decide +kernel
theorem e52_1 : Dc kC57 1 (.iload_n 1) 1 := by decide +kernel
theorem e52_2 : Dc kC57 2 (.if_icmp .ge 37) 3 := by decide +kernel
theorem e52_5 : Dc kC57 5 (.aload_n 0) 1 := by decide +kernel
theorem e52_6 : Dc kC57 6 (.iload_n 2) 1 := by decide +kernel
theorem e52_7 : Dc kC57 7 .caload 1 := by decide +kernel
theorem e52_8 : Dc kC57 8 (.bipush 47) 2 := by decide +kernel
theorem e52_10 : Dc kC57 10 (.if_icmp .ne 17) 3 := by decide +kernel
theorem e52_13 : Dc kC57 13 (.iload_n 2) 1 := by decide +kernel
theorem e52_14 : Dc kC57 14 (.ifCond .eq 13) 3 := by decide +kernel
theorem e52_27 : Dc kC57 27 (.aload_n 3) 1 := by decide +kernel
theorem e52_28 : Dc kC57 28 (.iload 4) 2 := by decide +kernel
theorem e52_30 : Dc kC57 30 (.aload_n 0) 1 := by decide +kernel
theorem e52_31 : Dc kC57 31 (.iload_n 2) 1 := by decide +kernel
theorem e52_32 : Dc kC57 32 .caload 1 := by decide +kernel
theorem e52_33 : Dc kC57 33 .castore 1 := by decide +kernel
theorem e52_34 : Dc kC57 34 (.iload 4) 2 := by decide +kernel
theorem e52_36 : Dc kC57 36 (.iconst 1) 1 := by decide +kernel
theorem e52_37 : Dc kC57 37 .iadd 1 := by decide +kernel
theorem e52_38 : Dc kC57 38 .ireturn 1 := by decide +kernel
theorem e52_39 : Dc kC57 39 (.iload 4) 2 := by decide +kernel
theorem e52_41 : Dc kC57 41 .ireturn 1 := by decide +kernel
def Q_put0 (Z : State) (zC : Int32) (vF : Value) (ae : Addr) (ke : ClassId) (ea eb : Int32) (ec ed ee : Int32) (an : Addr) (kn : ClassId) (nv : List Value) (ct nl : Nat) (h0 : Heap) (v : Option Value) (h : Heap) (L : List Loc) : Prop := ∃ (nl2 : Nat), ∃ (nv2 : List Value), v = some (.int (Int32.ofNat nl2)) ∧ Fr Z.heap.size L ∧ Keep h0 h [an] ∧ Arv Z h an kn .char (5 : Int32) nv2 (.int 0) ∧ (NPP ([ea, eb, ec, ed, ee] : List Int32) ct 1 nl2 nv2)
theorem rm_put0 (l : Launch) (Z : State) (a0 : Array Value) (hw : HW a0 Z) (zC : Int32) (vF : Value) (G : GB l a0 Z zC vF) (ae : Addr) (ke : ClassId) (ea eb : Int32) (ec ed ee : Int32) (an : Addr) (kn : ClassId) (nv : List Value) (ct nl : Nat) (h0 : Heap) (O0 : Old Z Z.heap.size h0) (Pe : Arv Z h0 ae ke .char (5 : Int32) [(.int ea), (.int eb), (.int ec), (.int ed), (.int ee)] (.int 0)) (Pv : Arv Z h0 an kn .char (5 : Int32) nv (.int 0)) (Pg : Z.heap.size ≤ an) (PN : (NPP ([ea, eb, ec, ed, ee] : List Int32) ct 0 nl nv)) (Hc : (ct ≤ 5)) (H0 : (¬ (ea < (0 : Int32)))) (J0 : (¬ ((255 : Int32) < ea))) (H1 : (¬ (eb < (0 : Int32)))) (J1 : (¬ ((255 : Int32) < eb))) (H2 : (¬ (ec < (0 : Int32)))) (J2 : (¬ ((255 : Int32) < ec))) (H3 : (¬ (ed < (0 : Int32)))) (J3 : (¬ ((255 : Int32) < ed))) (H4 : (¬ (ee < (0 : Int32)))) (J4 : (¬ ((255 : Int32) < ee))) :
    Con l Z (⟨sT3, "put", "([CII[CI)I"⟩ : MethodName) kC57 5 (some .int) ({ frames := 0, cells := 0, slots := 0, locals := 0 } : Room) #[(.ref ae), (.int (Int32.ofNat ct)), (iv 0), (.ref an), (.int (Int32.ofNat nl))] h0 (Q_put0 Z zC vF ae ke ea eb ec ed ee an kn nv ct nl h0) := by
 refine Con.intro (plainFor_of_name pn11) ?_
 intro p e s m below meth c T0 X0 hx Y hml hown0 hnm hret hlk hZ0 e0
 have N0 := Fr.nil Z.heap.size
 refine castGo (g' := mkF m 0 #[vr ae, vi (Int32.ofNat ct), vi 0, vr an, vi (Int32.ofNat nl)] []) (by first | rfl | (simp [entryFrame, mkF, argsToLocals, Value.category]; done)) ?_
 have hnl : nl ≤ 0 := npp_le PN
 have hl5 := PN.1
 show Go _ _ _ _ (T0.setTop (mkF m 0 #[vr ae, vi (Int32.ofNat ct), vi 0, vr an, vi (Int32.ofNat nl)] []))
 refine iL X0 hx (hb Y e52_0) (q := 1) rfl rfl ?_
 refine iL X0 hx (hb Y e52_1) (q := 2) rfl rfl ?_
 rcases Nat.lt_or_ge 0 ct with hc | hc
 ·show Go _ _ _ _ (T0.setTop (mkF m 2 #[vr ae, vi (Int32.ofNat ct), vi 0, vr an, vi (Int32.ofNat nl)] [(.int (Int32.ofNat ct)), (iv 0)]))
  refine icN X0 hx (hb Y e52_2) (q := 5) rfl (tlt (on_lt (i := 0) hc (show ct < 2147483648 from by omega))).2.1 ?_
  refine aL X0 hx (hb Y e52_5) (q := 6) rfl rfl rfl ?_
  refine iL X0 hx (hb Y e52_6) (q := 7) rfl rfl ?_
  refine g_ldC X0 hx hZ0 Pe (i := 0) (by decide) (by decide) (by decide) (v := (.int ea)) rfl e0 (hb Y e52_7) (q := 8) rfl ?_
  refine bI X0 hx (hb Y e52_8) (q := 10) rfl (z := 47) rfl ?_
  by_cases hc21 : ea = (47 : Int32)
  ·refine icN X0 hx (hb Y e52_10) (q := 13) rfl (teq hc21).2 ?_
   refine iL X0 hx (hb Y e52_13) (q := 14) rfl rfl ?_
   refine ifY X0 hx (hb Y e52_14) (q := 27) (by decide) (by decide) (by decide) ?_
   refine aL X0 hx (hb Y e52_27) (q := 28) rfl rfl rfl ?_
   refine iLw X0 hx (hb Y e52_28) (q := 30) rfl rfl ?_
   refine aL X0 hx (hb Y e52_30) (q := 31) rfl rfl rfl ?_
   refine iL X0 hx (hb Y e52_31) (q := 32) rfl rfl ?_
   refine g_ldC X0 hx hZ0 Pe (i := 0) (by decide) (by decide) (by decide) (v := (.int ea)) rfl e0 (hb Y e52_32) (q := 33) rfl ?_
   refine g_stC X0 hx hZ0 Pv (i := nl) (on_clamp (show nl < 2147483648 from by omega)) (on_nn (show nl < 2147483648 from by omega)) (on_lt (show nl < 5 from by omega) (show 5 < 2147483648 from by omega)) (show nl < nv.length from by first | omega | (simp only [List.length_set]; omega)) (y := ea) (nar_of255 H0 J0) e0 (hb Y e52_33) (q := 34) rfl ?_
   intro T22 h22 X22 e22 W22 V22
   have N22 := Fr.snoc X22 N0 Pg
   refine iLw X22 hx (hb Y e52_34) (q := 36) rfl rfl ?_
   refine cI X22 hx (hb Y e52_36) (q := 37) rfl (z := 1) rfl ?_
   refine g_iadd X22 hx (hb Y e52_37) (q := 38) rfl (z := (Int32.ofNat (nl + 1))) (on_add (nl) 1) ?_
   have K23 : Keep h0 h22 [an] := (Keep.refl h0 [an]).wr W22 (Or.inl (by simp))
   refine endP X22 hlk (fun h => by rw [hret] at h; cases h) (lastI X22 hx hret (hb Y e52_38)) ?_ (by decide) (by decide)
   rw [e22]
   refine ⟨(nl + 1), (nv.set nl (.int ea)), ?_, ?_, ?_, ?_, ?_⟩
   ·exact rfl
   ·exact N22
   ·exact K23
   ·exact V22
   ·exact (npp_yes PN hc (by decide) (fun z => z.2.1 rfl) rfl)
  ·refine icY X0 hx (hb Y e52_10) (q := 27) (by decide) (by decide) (feq hc21).2 ?_
   refine aL X0 hx (hb Y e52_27) (q := 28) rfl rfl rfl ?_
   refine iLw X0 hx (hb Y e52_28) (q := 30) rfl rfl ?_
   refine aL X0 hx (hb Y e52_30) (q := 31) rfl rfl rfl ?_
   refine iL X0 hx (hb Y e52_31) (q := 32) rfl rfl ?_
   refine g_ldC X0 hx hZ0 Pe (i := 0) (by decide) (by decide) (by decide) (v := (.int ea)) rfl e0 (hb Y e52_32) (q := 33) rfl ?_
   refine g_stC X0 hx hZ0 Pv (i := nl) (on_clamp (show nl < 2147483648 from by omega)) (on_nn (show nl < 2147483648 from by omega)) (on_lt (show nl < 5 from by omega) (show 5 < 2147483648 from by omega)) (show nl < nv.length from by first | omega | (simp only [List.length_set]; omega)) (y := ea) (nar_of255 H0 J0) e0 (hb Y e52_33) (q := 34) rfl ?_
   intro T24 h24 X24 e24 W24 V24
   have N24 := Fr.snoc X24 N0 Pg
   refine iLw X24 hx (hb Y e52_34) (q := 36) rfl rfl ?_
   refine cI X24 hx (hb Y e52_36) (q := 37) rfl (z := 1) rfl ?_
   refine g_iadd X24 hx (hb Y e52_37) (q := 38) rfl (z := (Int32.ofNat (nl + 1))) (on_add (nl) 1) ?_
   have K25 : Keep h0 h24 [an] := (Keep.refl h0 [an]).wr W24 (Or.inl (by simp))
   refine endP X24 hlk (fun h => by rw [hret] at h; cases h) (lastI X24 hx hret (hb Y e52_38)) ?_ (by decide) (by decide)
   rw [e24]
   refine ⟨(nl + 1), (nv.set nl (.int ea)), ?_, ?_, ?_, ?_, ?_⟩
   ·exact rfl
   ·exact N24
   ·exact K25
   ·exact V24
   ·exact (npp_yes PN hc (by decide) (fun z => hc21 z.1) rfl)
 ·show Go _ _ _ _ (T0.setTop (mkF m 2 #[vr ae, vi (Int32.ofNat ct), vi 0, vr an, vi (Int32.ofNat nl)] [(.int (Int32.ofNat ct)), (iv 0)]))
  refine icY X0 hx (hb Y e52_2) (q := 39) (by decide) (by decide) (flt (on_le (b := 0) hc (by decide))).2.1 ?_
  refine iLw X0 hx (hb Y e52_39) (q := 41) rfl rfl ?_
  refine endP X0 hlk (fun h => by rw [hret] at h; cases h) (lastI X0 hx hret (hb Y e52_41)) ?_ (by decide) (by decide)
  rw [e0]
  refine ⟨nl, nv, ?_, ?_, ?_, ?_, ?_⟩
  ·exact rfl
  ·exact N0
  ·exact (Keep.refl h0 [an])
  ·exact Pv
  ·exact (npp_no1 PN hc)
theorem e5g {a b c d e : Int32} {i : Nat} (h : i < 5) : ([.int a, .int b, .int c, .int d, .int e] : List Value).getD i (.int 0) = .int (([a, b, c, d, e] : List Int32).getD i 0) := by
  rcases (by omega : i = 0 ∨ i = 1 ∨ i = 2 ∨ i = 3 ∨ i = 4) with rfl | rfl | rfl | rfl | rfl <;> rfl
theorem all5 {cs : List Int32} (H : ALL cs) {i : Nat} (h : i < cs.length) : nar .char (cs.getD i 0) = cs.getD i 0 := by
  have q := H (cs.getD i 0) (by rw [List.getD_eq_getElem?_getD, List.getElem?_eq_getElem h]; exact List.getElem_mem h)
  exact nar_of255 q.1 q.2
theorem e52_17 : Dc kC57 17 (.aload_n 0) 1 := by decide +kernel
theorem e52_18 : Dc kC57 18 (.iload_n 2) 1 := by decide +kernel
theorem e52_19 : Dc kC57 19 (.iconst 1) 1 := by decide +kernel
theorem e52_20 : Dc kC57 20 .isub 1 := by decide +kernel
theorem e52_21 : Dc kC57 21 .caload 1 := by decide +kernel
theorem e52_22 : Dc kC57 22 (.bipush 47) 2 := by decide +kernel
theorem e52_24 : Dc kC57 24 (.if_icmp .eq 15) 3 := by decide +kernel
def Q_putn (Z : State) (zC : Int32) (vF : Value) (ae : Addr) (ke : ClassId) (ea eb : Int32) (ec ed ee : Int32) (an : Addr) (kn : ClassId) (nv : List Value) (ct pi nl : Nat) (h0 : Heap) (v : Option Value) (h : Heap) (L : List Loc) : Prop := ∃ (nl2 : Nat), ∃ (nv2 : List Value), v = some (.int (Int32.ofNat nl2)) ∧ Fr Z.heap.size L ∧ Keep h0 h [an] ∧ Arv Z h an kn .char (5 : Int32) nv2 (.int 0) ∧ (NPP ([ea, eb, ec, ed, ee] : List Int32) ct (pi + 1) nl2 nv2)
theorem rm_putn (l : Launch) (Z : State) (a0 : Array Value) (hw : HW a0 Z) (zC : Int32) (vF : Value) (G : GB l a0 Z zC vF) (ae : Addr) (ke : ClassId) (ea eb : Int32) (ec ed ee : Int32) (an : Addr) (kn : ClassId) (nv : List Value) (ct pi nl : Nat) (h0 : Heap) (O0 : Old Z Z.heap.size h0) (Pe : Arv Z h0 ae ke .char (5 : Int32) [(.int ea), (.int eb), (.int ec), (.int ed), (.int ee)] (.int 0)) (Pv : Arv Z h0 an kn .char (5 : Int32) nv (.int 0)) (Pg : Z.heap.size ≤ an) (PN : (NPP ([ea, eb, ec, ed, ee] : List Int32) ct pi nl nv)) (Hc : (ct ≤ 5)) (H1 : (1 ≤ pi)) (H4 : (pi ≤ 4)) (PA : (ALL ([ea, eb, ec, ed, ee] : List Int32))) :
    Con l Z (⟨sT3, "put", "([CII[CI)I"⟩ : MethodName) kC57 5 (some .int) ({ frames := 0, cells := 0, slots := 0, locals := 0 } : Room) #[(.ref ae), (.int (Int32.ofNat ct)), (.int (Int32.ofNat pi)), (.ref an), (.int (Int32.ofNat nl))] h0 (Q_putn Z zC vF ae ke ea eb ec ed ee an kn nv ct pi nl h0) := by
 refine Con.intro (plainFor_of_name pn11) ?_
 intro p e s m below meth c T0 X0 hx Y hml hown0 hnm hret hlk hZ0 e0
 have N0 := Fr.nil Z.heap.size
 refine castGo (g' := mkF m 0 #[vr ae, vi (Int32.ofNat ct), vi (Int32.ofNat pi), vr an, vi (Int32.ofNat nl)] []) (by first | rfl | (simp [entryFrame, mkF, argsToLocals, Value.category]; done)) ?_
 have hnl : nl ≤ pi := npp_le PN
 have hl5 := PN.1
 obtain ⟨xi, hxi⟩ : ∃ x, x = ([ea, eb, ec, ed, ee] : List Int32).getD pi 0 := ⟨_, rfl⟩
 obtain ⟨xj, hxj⟩ : ∃ x, x = ([ea, eb, ec, ed, ee] : List Int32).getD (pi - 1) 0 := ⟨_, rfl⟩
 have nxi : nar .char xi = xi := by rw [hxi]; exact all5 PA (show pi < 5 from by omega)
 show Go _ _ _ _ (T0.setTop (mkF m 0 #[vr ae, vi (Int32.ofNat ct), vi (Int32.ofNat pi), vr an, vi (Int32.ofNat nl)] []))
 refine iL X0 hx (hb Y e52_0) (q := 1) rfl rfl ?_
 refine iL X0 hx (hb Y e52_1) (q := 2) rfl rfl ?_
 rcases Nat.lt_or_ge pi ct with hc | hc
 ·show Go _ _ _ _ (T0.setTop (mkF m 2 #[vr ae, vi (Int32.ofNat ct), vi (Int32.ofNat pi), vr an, vi (Int32.ofNat nl)] [(.int (Int32.ofNat ct)), (.int (Int32.ofNat pi))]))
  refine icN X0 hx (hb Y e52_2) (q := 5) rfl (tlt (on_lt hc (show ct < 2147483648 from by omega))).2.1 ?_
  refine aL X0 hx (hb Y e52_5) (q := 6) rfl rfl rfl ?_
  refine iL X0 hx (hb Y e52_6) (q := 7) rfl rfl ?_
  refine g_ldC X0 hx hZ0 Pe (i := pi) (on_clamp (show pi < 2147483648 from by omega)) (on_nn (show pi < 2147483648 from by omega)) (on_lt (show pi < 5 from by omega) (show 5 < 2147483648 from by omega)) (v := (.int xi)) ((e5g (show pi < 5 from by omega)).trans (congrArg Value.int hxi.symm)) e0 (hb Y e52_7) (q := 8) rfl ?_
  refine bI X0 hx (hb Y e52_8) (q := 10) rfl (z := 47) rfl ?_
  by_cases hc21 : xi = (47 : Int32)
  ·refine icN X0 hx (hb Y e52_10) (q := 13) rfl (teq hc21).2 ?_
   refine iL X0 hx (hb Y e52_13) (q := 14) rfl rfl ?_
   refine ifN X0 hx (hb Y e52_14) (q := 17) rfl ((if0 _ _).trans (feq (on_neq (show ¬ pi = 0 from by omega) (show pi < 2147483648 from by omega) (show 0 < 2147483648 from by omega))).1) ?_
   refine aL X0 hx (hb Y e52_17) (q := 18) rfl rfl rfl ?_
   refine iL X0 hx (hb Y e52_18) (q := 19) rfl rfl ?_
   refine cI X0 hx (hb Y e52_19) (q := 20) rfl (z := 1) rfl ?_
   refine g_isub X0 hx (hb Y e52_20) (q := 21) rfl (z := (Int32.ofNat (pi - 1))) (on_sub (show 1 ≤ pi from by omega) (show pi < 2147483648 from by omega)) ?_
   refine g_ldC X0 hx hZ0 Pe (i := (pi - 1)) (on_clamp (show (pi - 1) < 2147483648 from by omega)) (on_nn (show (pi - 1) < 2147483648 from by omega)) (on_lt (show (pi - 1) < 5 from by omega) (show 5 < 2147483648 from by omega)) (v := (.int xj)) ((e5g (show (pi - 1) < 5 from by omega)).trans (congrArg Value.int hxj.symm)) e0 (hb Y e52_21) (q := 22) rfl ?_
   refine bI X0 hx (hb Y e52_22) (q := 24) rfl (z := 47) rfl ?_
   by_cases hc22 : xj = (47 : Int32)
   ·refine icY X0 hx (hb Y e52_24) (q := 39) (by decide) (by decide) (teq hc22).1 ?_
    refine iLw X0 hx (hb Y e52_39) (q := 41) rfl rfl ?_
    refine endP X0 hlk (fun h => by rw [hret] at h; cases h) (lastI X0 hx hret (hb Y e52_41)) ?_ (by decide) (by decide)
    rw [e0]
    refine ⟨nl, nv, ?_, ?_, ?_, ?_, ?_⟩
    ·exact rfl
    ·exact N0
    ·exact (Keep.refl h0 [an])
    ·exact Pv
    ·exact (npp_no2 PN hc (fun z => z ⟨hxi.symm.trans hc21, by omega, hxj.symm.trans hc22⟩))
   ·refine icN X0 hx (hb Y e52_24) (q := 27) rfl (feq hc22).1 ?_
    refine aL X0 hx (hb Y e52_27) (q := 28) rfl rfl rfl ?_
    refine iLw X0 hx (hb Y e52_28) (q := 30) rfl rfl ?_
    refine aL X0 hx (hb Y e52_30) (q := 31) rfl rfl rfl ?_
    refine iL X0 hx (hb Y e52_31) (q := 32) rfl rfl ?_
    refine g_ldC X0 hx hZ0 Pe (i := pi) (on_clamp (show pi < 2147483648 from by omega)) (on_nn (show pi < 2147483648 from by omega)) (on_lt (show pi < 5 from by omega) (show 5 < 2147483648 from by omega)) (v := (.int xi)) ((e5g (show pi < 5 from by omega)).trans (congrArg Value.int hxi.symm)) e0 (hb Y e52_32) (q := 33) rfl ?_
    refine g_stC X0 hx hZ0 Pv (i := nl) (on_clamp (show nl < 2147483648 from by omega)) (on_nn (show nl < 2147483648 from by omega)) (on_lt (show nl < 5 from by omega) (show 5 < 2147483648 from by omega)) (show nl < nv.length from by first | omega | (simp only [List.length_set]; omega)) (y := xi) nxi e0 (hb Y e52_33) (q := 34) rfl ?_
    intro T23 h23 X23 e23 W23 V23
    have N23 := Fr.snoc X23 N0 Pg
    refine iLw X23 hx (hb Y e52_34) (q := 36) rfl rfl ?_
    refine cI X23 hx (hb Y e52_36) (q := 37) rfl (z := 1) rfl ?_
    refine g_iadd X23 hx (hb Y e52_37) (q := 38) rfl (z := (Int32.ofNat (nl + 1))) (on_add (nl) 1) ?_
    have K24 : Keep h0 h23 [an] := (Keep.refl h0 [an]).wr W23 (Or.inl (by simp))
    refine endP X23 hlk (fun h => by rw [hret] at h; cases h) (lastI X23 hx hret (hb Y e52_38)) ?_ (by decide) (by decide)
    rw [e23]
    refine ⟨(nl + 1), (nv.set nl (.int xi)), ?_, ?_, ?_, ?_, ?_⟩
    ·exact rfl
    ·exact N23
    ·exact K24
    ·exact V23
    ·exact (npp_yes PN hc (by omega) (fun z => hc22 (hxj.trans z.2.2)) hxi)
  ·refine icY X0 hx (hb Y e52_10) (q := 27) (by decide) (by decide) (feq hc21).2 ?_
   refine aL X0 hx (hb Y e52_27) (q := 28) rfl rfl rfl ?_
   refine iLw X0 hx (hb Y e52_28) (q := 30) rfl rfl ?_
   refine aL X0 hx (hb Y e52_30) (q := 31) rfl rfl rfl ?_
   refine iL X0 hx (hb Y e52_31) (q := 32) rfl rfl ?_
   refine g_ldC X0 hx hZ0 Pe (i := pi) (on_clamp (show pi < 2147483648 from by omega)) (on_nn (show pi < 2147483648 from by omega)) (on_lt (show pi < 5 from by omega) (show 5 < 2147483648 from by omega)) (v := (.int xi)) ((e5g (show pi < 5 from by omega)).trans (congrArg Value.int hxi.symm)) e0 (hb Y e52_32) (q := 33) rfl ?_
   refine g_stC X0 hx hZ0 Pv (i := nl) (on_clamp (show nl < 2147483648 from by omega)) (on_nn (show nl < 2147483648 from by omega)) (on_lt (show nl < 5 from by omega) (show 5 < 2147483648 from by omega)) (show nl < nv.length from by first | omega | (simp only [List.length_set]; omega)) (y := xi) nxi e0 (hb Y e52_33) (q := 34) rfl ?_
   intro T25 h25 X25 e25 W25 V25
   have N25 := Fr.snoc X25 N0 Pg
   refine iLw X25 hx (hb Y e52_34) (q := 36) rfl rfl ?_
   refine cI X25 hx (hb Y e52_36) (q := 37) rfl (z := 1) rfl ?_
   refine g_iadd X25 hx (hb Y e52_37) (q := 38) rfl (z := (Int32.ofNat (nl + 1))) (on_add (nl) 1) ?_
   have K26 : Keep h0 h25 [an] := (Keep.refl h0 [an]).wr W25 (Or.inl (by simp))
   refine endP X25 hlk (fun h => by rw [hret] at h; cases h) (lastI X25 hx hret (hb Y e52_38)) ?_ (by decide) (by decide)
   rw [e25]
   refine ⟨(nl + 1), (nv.set nl (.int xi)), ?_, ?_, ?_, ?_, ?_⟩
   ·exact rfl
   ·exact N25
   ·exact K26
   ·exact V25
   ·exact (npp_yes PN hc (by omega) (fun z => hc21 (hxi.trans z.1)) hxi)
 ·show Go _ _ _ _ (T0.setTop (mkF m 2 #[vr ae, vi (Int32.ofNat ct), vi (Int32.ofNat pi), vr an, vi (Int32.ofNat nl)] [(.int (Int32.ofNat ct)), (.int (Int32.ofNat pi))]))
  refine icY X0 hx (hb Y e52_2) (q := 39) (by decide) (by decide) (flt (on_le hc (show pi < 2147483648 from by omega))).2.1 ?_
  refine iLw X0 hx (hb Y e52_39) (q := 41) rfl rfl ?_
  refine endP X0 hlk (fun h => by rw [hret] at h; cases h) (lastI X0 hx hret (hb Y e52_41)) ?_ (by decide) (by decide)
  rw [e0]
  refine ⟨nl, nv, ?_, ?_, ?_, ?_, ?_⟩
  ·exact rfl
  ·exact N0
  ·exact (Keep.refl h0 [an])
  ·exact Pv
  ·exact (npp_no1 PN hc)
theorem e53_0 : Dc kC59 0 (.iload_n 1) 1 := by decide +kernel
theorem e53_1 : Dc kC59 1 (.iload_n 3) 1 := by decide +kernel
theorem e53_2 : Dc kC59 2 (.if_icmp .lt 63) 3 := by decide +kernel
theorem e53_65 : Dc kC59 65 (.iconst 0) 1 := by decide +kernel
theorem e53_66 : Dc kC59 66 .ireturn 1 := by decide +kernel
theorem e53_5 : Dc kC59 5 (.iload_n 3) 1 := by decide +kernel
theorem e53_6 : Dc kC59 6 (.iconst 1) 1 := by decide +kernel
theorem e53_7 : Dc kC59 7 (.if_icmp .lt 12) 3 := by decide +kernel
theorem e53_19 : Dc kC59 19 (.iload_n 3) 1 := by decide +kernel
theorem e53_20 : Dc kC59 20 (.iconst 2) 1 := by decide +kernel
theorem e53_21 : Dc kC59 21 (.if_icmp .lt 12) 3 := by decide +kernel
theorem e53_33 : Dc kC59 33 (.iload_n 3) 1 := by decide +kernel
theorem e53_34 : Dc kC59 34 (.iconst 3) 1 := by decide +kernel
theorem e53_35 : Dc kC59 35 (.if_icmp .lt 12) 3 := by decide +kernel
theorem e53_47 : Dc kC59 47 (.iload_n 3) 1 := by decide +kernel
theorem e53_48 : Dc kC59 48 (.iconst 4) 1 := by decide +kernel
theorem e53_49 : Dc kC59 49 (.if_icmp .lt 12) 3 := by decide +kernel
theorem e53_61 : Dc kC59 61 (.iconst 1) 1 := by decide +kernel
theorem e53_62 : Dc kC59 62 (.goto 4) 3 := by decide +kernel
theorem e53_10 : Dc kC59 10 (.aload_n 0) 1 := by decide +kernel
theorem e53_11 : Dc kC59 11 (.iconst 0) 1 := by decide +kernel
theorem e53_12 : Dc kC59 12 .caload 1 := by decide +kernel
theorem e53_13 : Dc kC59 13 (.aload_n 2) 1 := by decide +kernel
theorem e53_14 : Dc kC59 14 (.iconst 0) 1 := by decide +kernel
theorem e53_15 : Dc kC59 15 .caload 1 := by decide +kernel
theorem e53_16 : Dc kC59 16 (.if_icmp .ne 49) 3 := by decide +kernel
theorem e53_24 : Dc kC59 24 (.aload_n 0) 1 := by decide +kernel
theorem e53_25 : Dc kC59 25 (.iconst 1) 1 := by decide +kernel
theorem e53_26 : Dc kC59 26 .caload 1 := by decide +kernel
theorem e53_27 : Dc kC59 27 (.aload_n 2) 1 := by decide +kernel
theorem e53_28 : Dc kC59 28 (.iconst 1) 1 := by decide +kernel
theorem e53_29 : Dc kC59 29 .caload 1 := by decide +kernel
theorem e53_30 : Dc kC59 30 (.if_icmp .ne 35) 3 := by decide +kernel
theorem e53_38 : Dc kC59 38 (.aload_n 0) 1 := by decide +kernel
theorem e53_39 : Dc kC59 39 (.iconst 2) 1 := by decide +kernel
theorem e53_40 : Dc kC59 40 .caload 1 := by decide +kernel
theorem e53_41 : Dc kC59 41 (.aload_n 2) 1 := by decide +kernel
theorem e53_42 : Dc kC59 42 (.iconst 2) 1 := by decide +kernel
theorem e53_43 : Dc kC59 43 .caload 1 := by decide +kernel
theorem e53_44 : Dc kC59 44 (.if_icmp .ne 21) 3 := by decide +kernel
theorem e53_52 : Dc kC59 52 (.aload_n 0) 1 := by decide +kernel
theorem e53_53 : Dc kC59 53 (.iconst 3) 1 := by decide +kernel
theorem e53_54 : Dc kC59 54 .caload 1 := by decide +kernel
theorem e53_55 : Dc kC59 55 (.aload_n 2) 1 := by decide +kernel
theorem e53_56 : Dc kC59 56 (.iconst 3) 1 := by decide +kernel
theorem e53_57 : Dc kC59 57 .caload 1 := by decide +kernel
theorem e53_58 : Dc kC59 58 (.if_icmp .ne 7) 3 := by decide +kernel
def Q_eqP (Z : State) (zC : Int32) (vF : Value) (an : Addr) (kn : ClassId) (nv : List Value) (nl : Nat) (ap : Addr) (kp : ClassId) (p1 p2 : Int32) (pk : Nat) (ls : List Int32) (h0 : Heap) (v : Option Value) (h : Heap) (L : List Loc) : Prop := ∃ (bb : Int32), v = some (.int bb) ∧ Fr Z.heap.size L ∧ h = h0 ∧ (BIT bb (pk ≤ nl ∧ ∀ j, j < pk → ls.getD j 0 = ([(47 : Int32), p1, (47 : Int32), p2] : List Int32).getD j 0))
theorem rm_eqP (l : Launch) (Z : State) (a0 : Array Value) (hw : HW a0 Z) (zC : Int32) (vF : Value) (G : GB l a0 Z zC vF) (an : Addr) (kn : ClassId) (nv : List Value) (nl : Nat) (ap : Addr) (kp : ClassId) (p1 p2 : Int32) (pk : Nat) (ls : List Int32) (h0 : Heap) (O0 : Old Z Z.heap.size h0) (Pv : Arv Z h0 an kn .char (5 : Int32) nv (.int 0)) (Pp : Arv Z h0 ap kp .char (4 : Int32) [(iv 47), (.int p1), (iv 47), (.int p2)] (.int 0)) (A1 : (nl ≤ 5)) (A2 : (pk ≤ 4)) (PL : (∀ j, j < nl → nv.getD j (.int 0) = .int (ls.getD j 0))) :
    Con l Z (⟨sT3, "eqP", "([CI[CI)Z"⟩ : MethodName) kC59 4 (some .boolean) ({ frames := 0, cells := 0, slots := 0, locals := 0 } : Room) #[(.ref an), (.int (Int32.ofNat nl)), (.ref ap), (.int (Int32.ofNat pk))] h0 (Q_eqP Z zC vF an kn nv nl ap kp p1 p2 pk ls h0) := by
 refine Con.intro (plainFor_of_name pn11) ?_
 intro p e s m below meth c T0 X0 hx Y hml hown0 hnm hret hlk hZ0 e0
 have N0 := Fr.nil Z.heap.size
 refine castGo (g' := mkF m 0 #[vr an, vi (Int32.ofNat nl), vr ap, vi (Int32.ofNat pk)] []) (by first | rfl | (simp [entryFrame, mkF, argsToLocals, Value.category]; done)) ?_
 show Go _ _ _ _ (T0.setTop (mkF m 0 #[vr an, vi (Int32.ofNat nl), vr ap, vi (Int32.ofNat pk)] []))
 rcases (by omega : pk = 0 ∨ pk = 1 ∨ pk = 2 ∨ pk = 3 ∨ pk = 4) with rfl | rfl | rfl | rfl | rfl
 ·show Go _ _ _ _ (T0.setTop (mkF m 0 #[vr an, vi (Int32.ofNat nl), vr ap, vi 0] []))
  refine iL X0 hx (hb Y e53_0) (q := 1) rfl rfl ?_
  refine iL X0 hx (hb Y e53_1) (q := 2) rfl rfl ?_
  rcases Nat.lt_or_ge nl 0 with hc | hc
  ·show Go _ _ _ _ (T0.setTop (mkF m 2 #[vr an, vi (Int32.ofNat nl), vr ap, vi 0] [(iv 0), (.int (Int32.ofNat nl))]))
   refine icY X0 hx (hb Y e53_2) (q := 65) (by decide) (by decide) (tlt (on_lt (n := 0) hc (by decide))).1 ?_
   refine cI X0 hx (hb Y e53_65) (q := 66) rfl (z := 0) rfl ?_
   refine endP X0 hlk (fun h => by rw [hret] at h; cases h) (lastN X0 hx (t := .boolean) (z' := (0 : Int32)) hret (by simp) (by decide) (hb Y e53_66)) ?_ (by decide) (by decide)
   rw [e0]
   exact ⟨(0 : Int32), rfl, N0, rfl, (Or.inr ⟨fun z => absurd z.1 (by omega), rfl⟩)⟩
  ·show Go _ _ _ _ (T0.setTop (mkF m 2 #[vr an, vi (Int32.ofNat nl), vr ap, vi 0] [(iv 0), (.int (Int32.ofNat nl))]))
   refine icN X0 hx (hb Y e53_2) (q := 5) rfl (flt (on_le (a := 0) hc (show nl < 2147483648 from by omega))).1 ?_
   refine iL X0 hx (hb Y e53_5) (q := 6) rfl rfl ?_
   refine cI X0 hx (hb Y e53_6) (q := 7) rfl (z := 1) rfl ?_
   refine icY X0 hx (hb Y e53_7) (q := 19) (by decide) (by decide) (by decide) ?_
   refine iL X0 hx (hb Y e53_19) (q := 20) rfl rfl ?_
   refine cI X0 hx (hb Y e53_20) (q := 21) rfl (z := 2) rfl ?_
   refine icY X0 hx (hb Y e53_21) (q := 33) (by decide) (by decide) (by decide) ?_
   refine iL X0 hx (hb Y e53_33) (q := 34) rfl rfl ?_
   refine cI X0 hx (hb Y e53_34) (q := 35) rfl (z := 3) rfl ?_
   refine icY X0 hx (hb Y e53_35) (q := 47) (by decide) (by decide) (by decide) ?_
   refine iL X0 hx (hb Y e53_47) (q := 48) rfl rfl ?_
   refine cI X0 hx (hb Y e53_48) (q := 49) rfl (z := 4) rfl ?_
   refine icY X0 hx (hb Y e53_49) (q := 61) (by decide) (by decide) (by decide) ?_
   refine cI X0 hx (hb Y e53_61) (q := 62) rfl (z := 1) rfl ?_
   refine g_goto X0 hx (hb Y e53_62) (q := 66) (by decide) (by decide) ?_
   refine endP X0 hlk (fun h => by rw [hret] at h; cases h) (lastN X0 hx (t := .boolean) (z' := (1 : Int32)) hret (by simp) (by decide) (hb Y e53_66)) ?_ (by decide) (by decide)
   rw [e0]
   exact ⟨(1 : Int32), rfl, N0, rfl, (Or.inl ⟨⟨Nat.zero_le _, fun j hj => absurd hj (Nat.not_lt_zero _)⟩, rfl⟩)⟩
 ·show Go _ _ _ _ (T0.setTop (mkF m 0 #[vr an, vi (Int32.ofNat nl), vr ap, vi 1] []))
  refine iL X0 hx (hb Y e53_0) (q := 1) rfl rfl ?_
  refine iL X0 hx (hb Y e53_1) (q := 2) rfl rfl ?_
  rcases Nat.lt_or_ge nl 1 with hc | hc
  ·show Go _ _ _ _ (T0.setTop (mkF m 2 #[vr an, vi (Int32.ofNat nl), vr ap, vi 1] [(iv 1), (.int (Int32.ofNat nl))]))
   refine icY X0 hx (hb Y e53_2) (q := 65) (by decide) (by decide) (tlt (on_lt (n := 1) hc (by decide))).1 ?_
   refine cI X0 hx (hb Y e53_65) (q := 66) rfl (z := 0) rfl ?_
   refine endP X0 hlk (fun h => by rw [hret] at h; cases h) (lastN X0 hx (t := .boolean) (z' := (0 : Int32)) hret (by simp) (by decide) (hb Y e53_66)) ?_ (by decide) (by decide)
   rw [e0]
   exact ⟨(0 : Int32), rfl, N0, rfl, (Or.inr ⟨fun z => absurd z.1 (by omega), rfl⟩)⟩
  ·have g0 := PL 0 (show 0 < nl from by omega)
   show Go _ _ _ _ (T0.setTop (mkF m 2 #[vr an, vi (Int32.ofNat nl), vr ap, vi 1] [(iv 1), (.int (Int32.ofNat nl))]))
   refine icN X0 hx (hb Y e53_2) (q := 5) rfl (flt (on_le (a := 1) hc (show nl < 2147483648 from by omega))).1 ?_
   refine iL X0 hx (hb Y e53_5) (q := 6) rfl rfl ?_
   refine cI X0 hx (hb Y e53_6) (q := 7) rfl (z := 1) rfl ?_
   refine icN X0 hx (hb Y e53_7) (q := 10) rfl (by decide) ?_
   refine aL X0 hx (hb Y e53_10) (q := 11) rfl rfl rfl ?_
   refine cI X0 hx (hb Y e53_11) (q := 12) rfl (z := 0) rfl ?_
   refine g_ldC X0 hx hZ0 Pv (i := 0) (by decide) (by decide) (by decide) (v := (.int (ls.getD 0 0))) g0 e0 (hb Y e53_12) (q := 13) rfl ?_
   refine aL X0 hx (hb Y e53_13) (q := 14) rfl rfl rfl ?_
   refine cI X0 hx (hb Y e53_14) (q := 15) rfl (z := 0) rfl ?_
   refine g_ldC X0 hx hZ0 Pp (i := 0) (by decide) (by decide) (by decide) (v := (iv 47)) rfl e0 (hb Y e53_15) (q := 16) rfl ?_
   by_cases hc21 : (ls.getD 0 0) = (47 : Int32)
   ·refine icN X0 hx (hb Y e53_16) (q := 19) rfl (teq hc21).2 ?_
    refine iL X0 hx (hb Y e53_19) (q := 20) rfl rfl ?_
    refine cI X0 hx (hb Y e53_20) (q := 21) rfl (z := 2) rfl ?_
    refine icY X0 hx (hb Y e53_21) (q := 33) (by decide) (by decide) (by decide) ?_
    refine iL X0 hx (hb Y e53_33) (q := 34) rfl rfl ?_
    refine cI X0 hx (hb Y e53_34) (q := 35) rfl (z := 3) rfl ?_
    refine icY X0 hx (hb Y e53_35) (q := 47) (by decide) (by decide) (by decide) ?_
    refine iL X0 hx (hb Y e53_47) (q := 48) rfl rfl ?_
    refine cI X0 hx (hb Y e53_48) (q := 49) rfl (z := 4) rfl ?_
    refine icY X0 hx (hb Y e53_49) (q := 61) (by decide) (by decide) (by decide) ?_
    refine cI X0 hx (hb Y e53_61) (q := 62) rfl (z := 1) rfl ?_
    refine g_goto X0 hx (hb Y e53_62) (q := 66) (by decide) (by decide) ?_
    refine endP X0 hlk (fun h => by rw [hret] at h; cases h) (lastN X0 hx (t := .boolean) (z' := (1 : Int32)) hret (by simp) (by decide) (hb Y e53_66)) ?_ (by decide) (by decide)
    rw [e0]
    exact ⟨(1 : Int32), rfl, N0, rfl, (Or.inl ⟨⟨hc, fun j hj => by rcases (by omega : j = 0) with rfl <;> first | exact hc21⟩, rfl⟩)⟩
   ·refine icY X0 hx (hb Y e53_16) (q := 65) (by decide) (by decide) (feq hc21).2 ?_
    refine cI X0 hx (hb Y e53_65) (q := 66) rfl (z := 0) rfl ?_
    refine endP X0 hlk (fun h => by rw [hret] at h; cases h) (lastN X0 hx (t := .boolean) (z' := (0 : Int32)) hret (by simp) (by decide) (hb Y e53_66)) ?_ (by decide) (by decide)
    rw [e0]
    exact ⟨(0 : Int32), rfl, N0, rfl, (Or.inr ⟨fun z => hc21 (z.2 0 (by decide)), rfl⟩)⟩
 ·show Go _ _ _ _ (T0.setTop (mkF m 0 #[vr an, vi (Int32.ofNat nl), vr ap, vi 2] []))
  refine iL X0 hx (hb Y e53_0) (q := 1) rfl rfl ?_
  refine iL X0 hx (hb Y e53_1) (q := 2) rfl rfl ?_
  rcases Nat.lt_or_ge nl 2 with hc | hc
  ·show Go _ _ _ _ (T0.setTop (mkF m 2 #[vr an, vi (Int32.ofNat nl), vr ap, vi 2] [(iv 2), (.int (Int32.ofNat nl))]))
   refine icY X0 hx (hb Y e53_2) (q := 65) (by decide) (by decide) (tlt (on_lt (n := 2) hc (by decide))).1 ?_
   refine cI X0 hx (hb Y e53_65) (q := 66) rfl (z := 0) rfl ?_
   refine endP X0 hlk (fun h => by rw [hret] at h; cases h) (lastN X0 hx (t := .boolean) (z' := (0 : Int32)) hret (by simp) (by decide) (hb Y e53_66)) ?_ (by decide) (by decide)
   rw [e0]
   exact ⟨(0 : Int32), rfl, N0, rfl, (Or.inr ⟨fun z => absurd z.1 (by omega), rfl⟩)⟩
  ·have g0 := PL 0 (show 0 < nl from by omega)
   have g1 := PL 1 (show 1 < nl from by omega)
   show Go _ _ _ _ (T0.setTop (mkF m 2 #[vr an, vi (Int32.ofNat nl), vr ap, vi 2] [(iv 2), (.int (Int32.ofNat nl))]))
   refine icN X0 hx (hb Y e53_2) (q := 5) rfl (flt (on_le (a := 2) hc (show nl < 2147483648 from by omega))).1 ?_
   refine iL X0 hx (hb Y e53_5) (q := 6) rfl rfl ?_
   refine cI X0 hx (hb Y e53_6) (q := 7) rfl (z := 1) rfl ?_
   refine icN X0 hx (hb Y e53_7) (q := 10) rfl (by decide) ?_
   refine aL X0 hx (hb Y e53_10) (q := 11) rfl rfl rfl ?_
   refine cI X0 hx (hb Y e53_11) (q := 12) rfl (z := 0) rfl ?_
   refine g_ldC X0 hx hZ0 Pv (i := 0) (by decide) (by decide) (by decide) (v := (.int (ls.getD 0 0))) g0 e0 (hb Y e53_12) (q := 13) rfl ?_
   refine aL X0 hx (hb Y e53_13) (q := 14) rfl rfl rfl ?_
   refine cI X0 hx (hb Y e53_14) (q := 15) rfl (z := 0) rfl ?_
   refine g_ldC X0 hx hZ0 Pp (i := 0) (by decide) (by decide) (by decide) (v := (iv 47)) rfl e0 (hb Y e53_15) (q := 16) rfl ?_
   by_cases hc22 : (ls.getD 0 0) = (47 : Int32)
   ·refine icN X0 hx (hb Y e53_16) (q := 19) rfl (teq hc22).2 ?_
    refine iL X0 hx (hb Y e53_19) (q := 20) rfl rfl ?_
    refine cI X0 hx (hb Y e53_20) (q := 21) rfl (z := 2) rfl ?_
    refine icN X0 hx (hb Y e53_21) (q := 24) rfl (by decide) ?_
    refine aL X0 hx (hb Y e53_24) (q := 25) rfl rfl rfl ?_
    refine cI X0 hx (hb Y e53_25) (q := 26) rfl (z := 1) rfl ?_
    refine g_ldC X0 hx hZ0 Pv (i := 1) (by decide) (by decide) (by decide) (v := (.int (ls.getD 1 0))) g1 e0 (hb Y e53_26) (q := 27) rfl ?_
    refine aL X0 hx (hb Y e53_27) (q := 28) rfl rfl rfl ?_
    refine cI X0 hx (hb Y e53_28) (q := 29) rfl (z := 1) rfl ?_
    refine g_ldC X0 hx hZ0 Pp (i := 1) (by decide) (by decide) (by decide) (v := (.int p1)) rfl e0 (hb Y e53_29) (q := 30) rfl ?_
    by_cases hc23 : (ls.getD 1 0) = p1
    ·refine icN X0 hx (hb Y e53_30) (q := 33) rfl (teq hc23).2 ?_
     refine iL X0 hx (hb Y e53_33) (q := 34) rfl rfl ?_
     refine cI X0 hx (hb Y e53_34) (q := 35) rfl (z := 3) rfl ?_
     refine icY X0 hx (hb Y e53_35) (q := 47) (by decide) (by decide) (by decide) ?_
     refine iL X0 hx (hb Y e53_47) (q := 48) rfl rfl ?_
     refine cI X0 hx (hb Y e53_48) (q := 49) rfl (z := 4) rfl ?_
     refine icY X0 hx (hb Y e53_49) (q := 61) (by decide) (by decide) (by decide) ?_
     refine cI X0 hx (hb Y e53_61) (q := 62) rfl (z := 1) rfl ?_
     refine g_goto X0 hx (hb Y e53_62) (q := 66) (by decide) (by decide) ?_
     refine endP X0 hlk (fun h => by rw [hret] at h; cases h) (lastN X0 hx (t := .boolean) (z' := (1 : Int32)) hret (by simp) (by decide) (hb Y e53_66)) ?_ (by decide) (by decide)
     rw [e0]
     exact ⟨(1 : Int32), rfl, N0, rfl, (Or.inl ⟨⟨hc, fun j hj => by rcases (by omega : j = 0 ∨ j = 1) with rfl | rfl <;> first | exact hc22 | exact hc23⟩, rfl⟩)⟩
    ·refine icY X0 hx (hb Y e53_30) (q := 65) (by decide) (by decide) (feq hc23).2 ?_
     refine cI X0 hx (hb Y e53_65) (q := 66) rfl (z := 0) rfl ?_
     refine endP X0 hlk (fun h => by rw [hret] at h; cases h) (lastN X0 hx (t := .boolean) (z' := (0 : Int32)) hret (by simp) (by decide) (hb Y e53_66)) ?_ (by decide) (by decide)
     rw [e0]
     exact ⟨(0 : Int32), rfl, N0, rfl, (Or.inr ⟨fun z => hc23 (z.2 1 (by decide)), rfl⟩)⟩
   ·refine icY X0 hx (hb Y e53_16) (q := 65) (by decide) (by decide) (feq hc22).2 ?_
    refine cI X0 hx (hb Y e53_65) (q := 66) rfl (z := 0) rfl ?_
    refine endP X0 hlk (fun h => by rw [hret] at h; cases h) (lastN X0 hx (t := .boolean) (z' := (0 : Int32)) hret (by simp) (by decide) (hb Y e53_66)) ?_ (by decide) (by decide)
    rw [e0]
    exact ⟨(0 : Int32), rfl, N0, rfl, (Or.inr ⟨fun z => hc22 (z.2 0 (by decide)), rfl⟩)⟩
 ·show Go _ _ _ _ (T0.setTop (mkF m 0 #[vr an, vi (Int32.ofNat nl), vr ap, vi 3] []))
  refine iL X0 hx (hb Y e53_0) (q := 1) rfl rfl ?_
  refine iL X0 hx (hb Y e53_1) (q := 2) rfl rfl ?_
  rcases Nat.lt_or_ge nl 3 with hc | hc
  ·show Go _ _ _ _ (T0.setTop (mkF m 2 #[vr an, vi (Int32.ofNat nl), vr ap, vi 3] [(iv 3), (.int (Int32.ofNat nl))]))
   refine icY X0 hx (hb Y e53_2) (q := 65) (by decide) (by decide) (tlt (on_lt (n := 3) hc (by decide))).1 ?_
   refine cI X0 hx (hb Y e53_65) (q := 66) rfl (z := 0) rfl ?_
   refine endP X0 hlk (fun h => by rw [hret] at h; cases h) (lastN X0 hx (t := .boolean) (z' := (0 : Int32)) hret (by simp) (by decide) (hb Y e53_66)) ?_ (by decide) (by decide)
   rw [e0]
   exact ⟨(0 : Int32), rfl, N0, rfl, (Or.inr ⟨fun z => absurd z.1 (by omega), rfl⟩)⟩
  ·have g0 := PL 0 (show 0 < nl from by omega)
   have g1 := PL 1 (show 1 < nl from by omega)
   have g2 := PL 2 (show 2 < nl from by omega)
   show Go _ _ _ _ (T0.setTop (mkF m 2 #[vr an, vi (Int32.ofNat nl), vr ap, vi 3] [(iv 3), (.int (Int32.ofNat nl))]))
   refine icN X0 hx (hb Y e53_2) (q := 5) rfl (flt (on_le (a := 3) hc (show nl < 2147483648 from by omega))).1 ?_
   refine iL X0 hx (hb Y e53_5) (q := 6) rfl rfl ?_
   refine cI X0 hx (hb Y e53_6) (q := 7) rfl (z := 1) rfl ?_
   refine icN X0 hx (hb Y e53_7) (q := 10) rfl (by decide) ?_
   refine aL X0 hx (hb Y e53_10) (q := 11) rfl rfl rfl ?_
   refine cI X0 hx (hb Y e53_11) (q := 12) rfl (z := 0) rfl ?_
   refine g_ldC X0 hx hZ0 Pv (i := 0) (by decide) (by decide) (by decide) (v := (.int (ls.getD 0 0))) g0 e0 (hb Y e53_12) (q := 13) rfl ?_
   refine aL X0 hx (hb Y e53_13) (q := 14) rfl rfl rfl ?_
   refine cI X0 hx (hb Y e53_14) (q := 15) rfl (z := 0) rfl ?_
   refine g_ldC X0 hx hZ0 Pp (i := 0) (by decide) (by decide) (by decide) (v := (iv 47)) rfl e0 (hb Y e53_15) (q := 16) rfl ?_
   by_cases hc24 : (ls.getD 0 0) = (47 : Int32)
   ·refine icN X0 hx (hb Y e53_16) (q := 19) rfl (teq hc24).2 ?_
    refine iL X0 hx (hb Y e53_19) (q := 20) rfl rfl ?_
    refine cI X0 hx (hb Y e53_20) (q := 21) rfl (z := 2) rfl ?_
    refine icN X0 hx (hb Y e53_21) (q := 24) rfl (by decide) ?_
    refine aL X0 hx (hb Y e53_24) (q := 25) rfl rfl rfl ?_
    refine cI X0 hx (hb Y e53_25) (q := 26) rfl (z := 1) rfl ?_
    refine g_ldC X0 hx hZ0 Pv (i := 1) (by decide) (by decide) (by decide) (v := (.int (ls.getD 1 0))) g1 e0 (hb Y e53_26) (q := 27) rfl ?_
    refine aL X0 hx (hb Y e53_27) (q := 28) rfl rfl rfl ?_
    refine cI X0 hx (hb Y e53_28) (q := 29) rfl (z := 1) rfl ?_
    refine g_ldC X0 hx hZ0 Pp (i := 1) (by decide) (by decide) (by decide) (v := (.int p1)) rfl e0 (hb Y e53_29) (q := 30) rfl ?_
    by_cases hc25 : (ls.getD 1 0) = p1
    ·refine icN X0 hx (hb Y e53_30) (q := 33) rfl (teq hc25).2 ?_
     refine iL X0 hx (hb Y e53_33) (q := 34) rfl rfl ?_
     refine cI X0 hx (hb Y e53_34) (q := 35) rfl (z := 3) rfl ?_
     refine icN X0 hx (hb Y e53_35) (q := 38) rfl (by decide) ?_
     refine aL X0 hx (hb Y e53_38) (q := 39) rfl rfl rfl ?_
     refine cI X0 hx (hb Y e53_39) (q := 40) rfl (z := 2) rfl ?_
     refine g_ldC X0 hx hZ0 Pv (i := 2) (by decide) (by decide) (by decide) (v := (.int (ls.getD 2 0))) g2 e0 (hb Y e53_40) (q := 41) rfl ?_
     refine aL X0 hx (hb Y e53_41) (q := 42) rfl rfl rfl ?_
     refine cI X0 hx (hb Y e53_42) (q := 43) rfl (z := 2) rfl ?_
     refine g_ldC X0 hx hZ0 Pp (i := 2) (by decide) (by decide) (by decide) (v := (iv 47)) rfl e0 (hb Y e53_43) (q := 44) rfl ?_
     by_cases hc26 : (ls.getD 2 0) = (47 : Int32)
     ·refine icN X0 hx (hb Y e53_44) (q := 47) rfl (teq hc26).2 ?_
      refine iL X0 hx (hb Y e53_47) (q := 48) rfl rfl ?_
      refine cI X0 hx (hb Y e53_48) (q := 49) rfl (z := 4) rfl ?_
      refine icY X0 hx (hb Y e53_49) (q := 61) (by decide) (by decide) (by decide) ?_
      refine cI X0 hx (hb Y e53_61) (q := 62) rfl (z := 1) rfl ?_
      refine g_goto X0 hx (hb Y e53_62) (q := 66) (by decide) (by decide) ?_
      refine endP X0 hlk (fun h => by rw [hret] at h; cases h) (lastN X0 hx (t := .boolean) (z' := (1 : Int32)) hret (by simp) (by decide) (hb Y e53_66)) ?_ (by decide) (by decide)
      rw [e0]
      exact ⟨(1 : Int32), rfl, N0, rfl, (Or.inl ⟨⟨hc, fun j hj => by rcases (by omega : j = 0 ∨ j = 1 ∨ j = 2) with rfl | rfl | rfl <;> first | exact hc24 | exact hc25 | exact hc26⟩, rfl⟩)⟩
     ·refine icY X0 hx (hb Y e53_44) (q := 65) (by decide) (by decide) (feq hc26).2 ?_
      refine cI X0 hx (hb Y e53_65) (q := 66) rfl (z := 0) rfl ?_
      refine endP X0 hlk (fun h => by rw [hret] at h; cases h) (lastN X0 hx (t := .boolean) (z' := (0 : Int32)) hret (by simp) (by decide) (hb Y e53_66)) ?_ (by decide) (by decide)
      rw [e0]
      exact ⟨(0 : Int32), rfl, N0, rfl, (Or.inr ⟨fun z => hc26 (z.2 2 (by decide)), rfl⟩)⟩
    ·refine icY X0 hx (hb Y e53_30) (q := 65) (by decide) (by decide) (feq hc25).2 ?_
     refine cI X0 hx (hb Y e53_65) (q := 66) rfl (z := 0) rfl ?_
     refine endP X0 hlk (fun h => by rw [hret] at h; cases h) (lastN X0 hx (t := .boolean) (z' := (0 : Int32)) hret (by simp) (by decide) (hb Y e53_66)) ?_ (by decide) (by decide)
     rw [e0]
     exact ⟨(0 : Int32), rfl, N0, rfl, (Or.inr ⟨fun z => hc25 (z.2 1 (by decide)), rfl⟩)⟩
   ·refine icY X0 hx (hb Y e53_16) (q := 65) (by decide) (by decide) (feq hc24).2 ?_
    refine cI X0 hx (hb Y e53_65) (q := 66) rfl (z := 0) rfl ?_
    refine endP X0 hlk (fun h => by rw [hret] at h; cases h) (lastN X0 hx (t := .boolean) (z' := (0 : Int32)) hret (by simp) (by decide) (hb Y e53_66)) ?_ (by decide) (by decide)
    rw [e0]
    exact ⟨(0 : Int32), rfl, N0, rfl, (Or.inr ⟨fun z => hc24 (z.2 0 (by decide)), rfl⟩)⟩
 ·show Go _ _ _ _ (T0.setTop (mkF m 0 #[vr an, vi (Int32.ofNat nl), vr ap, vi 4] []))
  refine iL X0 hx (hb Y e53_0) (q := 1) rfl rfl ?_
  refine iL X0 hx (hb Y e53_1) (q := 2) rfl rfl ?_
  rcases Nat.lt_or_ge nl 4 with hc | hc
  ·show Go _ _ _ _ (T0.setTop (mkF m 2 #[vr an, vi (Int32.ofNat nl), vr ap, vi 4] [(iv 4), (.int (Int32.ofNat nl))]))
   refine icY X0 hx (hb Y e53_2) (q := 65) (by decide) (by decide) (tlt (on_lt (n := 4) hc (by decide))).1 ?_
   refine cI X0 hx (hb Y e53_65) (q := 66) rfl (z := 0) rfl ?_
   refine endP X0 hlk (fun h => by rw [hret] at h; cases h) (lastN X0 hx (t := .boolean) (z' := (0 : Int32)) hret (by simp) (by decide) (hb Y e53_66)) ?_ (by decide) (by decide)
   rw [e0]
   exact ⟨(0 : Int32), rfl, N0, rfl, (Or.inr ⟨fun z => absurd z.1 (by omega), rfl⟩)⟩
  ·have g0 := PL 0 (show 0 < nl from by omega)
   have g1 := PL 1 (show 1 < nl from by omega)
   have g2 := PL 2 (show 2 < nl from by omega)
   have g3 := PL 3 (show 3 < nl from by omega)
   show Go _ _ _ _ (T0.setTop (mkF m 2 #[vr an, vi (Int32.ofNat nl), vr ap, vi 4] [(iv 4), (.int (Int32.ofNat nl))]))
   refine icN X0 hx (hb Y e53_2) (q := 5) rfl (flt (on_le (a := 4) hc (show nl < 2147483648 from by omega))).1 ?_
   refine iL X0 hx (hb Y e53_5) (q := 6) rfl rfl ?_
   refine cI X0 hx (hb Y e53_6) (q := 7) rfl (z := 1) rfl ?_
   refine icN X0 hx (hb Y e53_7) (q := 10) rfl (by decide) ?_
   refine aL X0 hx (hb Y e53_10) (q := 11) rfl rfl rfl ?_
   refine cI X0 hx (hb Y e53_11) (q := 12) rfl (z := 0) rfl ?_
   refine g_ldC X0 hx hZ0 Pv (i := 0) (by decide) (by decide) (by decide) (v := (.int (ls.getD 0 0))) g0 e0 (hb Y e53_12) (q := 13) rfl ?_
   refine aL X0 hx (hb Y e53_13) (q := 14) rfl rfl rfl ?_
   refine cI X0 hx (hb Y e53_14) (q := 15) rfl (z := 0) rfl ?_
   refine g_ldC X0 hx hZ0 Pp (i := 0) (by decide) (by decide) (by decide) (v := (iv 47)) rfl e0 (hb Y e53_15) (q := 16) rfl ?_
   by_cases hc27 : (ls.getD 0 0) = (47 : Int32)
   ·refine icN X0 hx (hb Y e53_16) (q := 19) rfl (teq hc27).2 ?_
    refine iL X0 hx (hb Y e53_19) (q := 20) rfl rfl ?_
    refine cI X0 hx (hb Y e53_20) (q := 21) rfl (z := 2) rfl ?_
    refine icN X0 hx (hb Y e53_21) (q := 24) rfl (by decide) ?_
    refine aL X0 hx (hb Y e53_24) (q := 25) rfl rfl rfl ?_
    refine cI X0 hx (hb Y e53_25) (q := 26) rfl (z := 1) rfl ?_
    refine g_ldC X0 hx hZ0 Pv (i := 1) (by decide) (by decide) (by decide) (v := (.int (ls.getD 1 0))) g1 e0 (hb Y e53_26) (q := 27) rfl ?_
    refine aL X0 hx (hb Y e53_27) (q := 28) rfl rfl rfl ?_
    refine cI X0 hx (hb Y e53_28) (q := 29) rfl (z := 1) rfl ?_
    refine g_ldC X0 hx hZ0 Pp (i := 1) (by decide) (by decide) (by decide) (v := (.int p1)) rfl e0 (hb Y e53_29) (q := 30) rfl ?_
    by_cases hc28 : (ls.getD 1 0) = p1
    ·refine icN X0 hx (hb Y e53_30) (q := 33) rfl (teq hc28).2 ?_
     refine iL X0 hx (hb Y e53_33) (q := 34) rfl rfl ?_
     refine cI X0 hx (hb Y e53_34) (q := 35) rfl (z := 3) rfl ?_
     refine icN X0 hx (hb Y e53_35) (q := 38) rfl (by decide) ?_
     refine aL X0 hx (hb Y e53_38) (q := 39) rfl rfl rfl ?_
     refine cI X0 hx (hb Y e53_39) (q := 40) rfl (z := 2) rfl ?_
     refine g_ldC X0 hx hZ0 Pv (i := 2) (by decide) (by decide) (by decide) (v := (.int (ls.getD 2 0))) g2 e0 (hb Y e53_40) (q := 41) rfl ?_
     refine aL X0 hx (hb Y e53_41) (q := 42) rfl rfl rfl ?_
     refine cI X0 hx (hb Y e53_42) (q := 43) rfl (z := 2) rfl ?_
     refine g_ldC X0 hx hZ0 Pp (i := 2) (by decide) (by decide) (by decide) (v := (iv 47)) rfl e0 (hb Y e53_43) (q := 44) rfl ?_
     by_cases hc29 : (ls.getD 2 0) = (47 : Int32)
     ·refine icN X0 hx (hb Y e53_44) (q := 47) rfl (teq hc29).2 ?_
      refine iL X0 hx (hb Y e53_47) (q := 48) rfl rfl ?_
      refine cI X0 hx (hb Y e53_48) (q := 49) rfl (z := 4) rfl ?_
      refine icN X0 hx (hb Y e53_49) (q := 52) rfl (by decide) ?_
      refine aL X0 hx (hb Y e53_52) (q := 53) rfl rfl rfl ?_
      refine cI X0 hx (hb Y e53_53) (q := 54) rfl (z := 3) rfl ?_
      refine g_ldC X0 hx hZ0 Pv (i := 3) (by decide) (by decide) (by decide) (v := (.int (ls.getD 3 0))) g3 e0 (hb Y e53_54) (q := 55) rfl ?_
      refine aL X0 hx (hb Y e53_55) (q := 56) rfl rfl rfl ?_
      refine cI X0 hx (hb Y e53_56) (q := 57) rfl (z := 3) rfl ?_
      refine g_ldC X0 hx hZ0 Pp (i := 3) (by decide) (by decide) (by decide) (v := (.int p2)) rfl e0 (hb Y e53_57) (q := 58) rfl ?_
      by_cases hc30 : (ls.getD 3 0) = p2
      ·refine icN X0 hx (hb Y e53_58) (q := 61) rfl (teq hc30).2 ?_
       refine cI X0 hx (hb Y e53_61) (q := 62) rfl (z := 1) rfl ?_
       refine g_goto X0 hx (hb Y e53_62) (q := 66) (by decide) (by decide) ?_
       refine endP X0 hlk (fun h => by rw [hret] at h; cases h) (lastN X0 hx (t := .boolean) (z' := (1 : Int32)) hret (by simp) (by decide) (hb Y e53_66)) ?_ (by decide) (by decide)
       rw [e0]
       exact ⟨(1 : Int32), rfl, N0, rfl, (Or.inl ⟨⟨hc, fun j hj => by rcases (by omega : j = 0 ∨ j = 1 ∨ j = 2 ∨ j = 3) with rfl | rfl | rfl | rfl <;> first | exact hc27 | exact hc28 | exact hc29 | exact hc30⟩, rfl⟩)⟩
      ·refine icY X0 hx (hb Y e53_58) (q := 65) (by decide) (by decide) (feq hc30).2 ?_
       refine cI X0 hx (hb Y e53_65) (q := 66) rfl (z := 0) rfl ?_
       refine endP X0 hlk (fun h => by rw [hret] at h; cases h) (lastN X0 hx (t := .boolean) (z' := (0 : Int32)) hret (by simp) (by decide) (hb Y e53_66)) ?_ (by decide) (by decide)
       rw [e0]
       exact ⟨(0 : Int32), rfl, N0, rfl, (Or.inr ⟨fun z => hc30 (z.2 3 (by decide)), rfl⟩)⟩
     ·refine icY X0 hx (hb Y e53_44) (q := 65) (by decide) (by decide) (feq hc29).2 ?_
      refine cI X0 hx (hb Y e53_65) (q := 66) rfl (z := 0) rfl ?_
      refine endP X0 hlk (fun h => by rw [hret] at h; cases h) (lastN X0 hx (t := .boolean) (z' := (0 : Int32)) hret (by simp) (by decide) (hb Y e53_66)) ?_ (by decide) (by decide)
      rw [e0]
      exact ⟨(0 : Int32), rfl, N0, rfl, (Or.inr ⟨fun z => hc29 (z.2 2 (by decide)), rfl⟩)⟩
    ·refine icY X0 hx (hb Y e53_30) (q := 65) (by decide) (by decide) (feq hc28).2 ?_
     refine cI X0 hx (hb Y e53_65) (q := 66) rfl (z := 0) rfl ?_
     refine endP X0 hlk (fun h => by rw [hret] at h; cases h) (lastN X0 hx (t := .boolean) (z' := (0 : Int32)) hret (by simp) (by decide) (hb Y e53_66)) ?_ (by decide) (by decide)
     rw [e0]
     exact ⟨(0 : Int32), rfl, N0, rfl, (Or.inr ⟨fun z => hc28 (z.2 1 (by decide)), rfl⟩)⟩
   ·refine icY X0 hx (hb Y e53_16) (q := 65) (by decide) (by decide) (feq hc27).2 ?_
    refine cI X0 hx (hb Y e53_65) (q := 66) rfl (z := 0) rfl ?_
    refine endP X0 hlk (fun h => by rw [hret] at h; cases h) (lastN X0 hx (t := .boolean) (z' := (0 : Int32)) hret (by simp) (by decide) (hb Y e53_66)) ?_ (by decide) (by decide)
    rw [e0]
    exact ⟨(0 : Int32), rfl, N0, rfl, (Or.inr ⟨fun z => hc27 (z.2 0 (by decide)), rfl⟩)⟩
theorem bit_y {b : Int32} {P : Prop} (H : BIT b P) (h : P) : b = 1 := H.elim (fun z => z.2) (fun z => absurd h z.1)
theorem bit_n {b : Int32} {P : Prop} (H : BIT b P) (h : ¬ P) : b = 0 := H.elim (fun z => absurd z.1 h) (fun z => z.2)
theorem ext0 {a b : List Int32} (h : a.length = b.length) (g : ∀ j, j < a.length → a.getD j 0 = b.getD j 0) : a = b := by
  apply List.ext_getElem h
  intro i h1 h2
  have q := g i h1
  rw [List.getD_eq_getElem?_getD, List.getD_eq_getElem?_getD, List.getElem?_eq_getElem h1, List.getElem?_eq_getElem h2] at q
  exact q
theorem qok_f {p1 p2 : Int32} (a1 : ¬ p1 = 47) (b1 : ¬ p1 = 63) (c1 : ¬ p1 = 42) (a2 : ¬ p2 = 47) (b2 : ¬ p2 = 63) (c2 : ¬ p2 = 42) {k : Nat} (h1 : 1 ≤ k) (h5 : k ≤ 5) : QOK (List.take k [47, p1, 47, p2, 47]) := by
  have hl : (List.take k [47, p1, 47, p2, 47]).length = k := by rw [List.length_take]; show min k 5 = k; omega
  have f : ∀ x : Int32, ¬ x = 47 → ¬ p1 = x → ¬ p2 = x → ∀ j, j < 5 → ¬ ([47, p1, 47, p2, 47] : List Int32).getD j 0 = x := fun x q q1 q2 j hj => by
    rcases (by omega : j = 0 ∨ j = 1 ∨ j = 2 ∨ j = 3 ∨ j = 4) with rfl | rfl | rfl | rfl | rfl
    · exact fun z => q z.symm
    · exact q1
    · exact fun z => q z.symm
    · exact q2
    · exact fun z => q z.symm
  refine ⟨⟨by omega, fun j hj => ?_⟩, fun j hj => ?_, fun ⟨j, hj, g1, g2⟩ => ?_, fun j hj => ?_⟩
  · obtain rfl : j = 0 := by omega
    rw [tk_get (by omega)]; rfl
  · rw [hl] at hj
    rw [tk_get hj]; exact f 63 (by decide) b1 b2 j (by omega)
  · rw [hl] at hj
    rw [tk_get (by omega)] at g1 g2
    rcases (by omega : j = 0 ∨ j = 1 ∨ j = 2 ∨ j = 3) with rfl | rfl | rfl | rfl
    · exact a1 g2
    · exact a1 g1
    · exact a2 g2
    · exact a2 g1
  · rw [hl] at hj
    rw [tk_get hj]; exact f 42 (by decide) c1 c2 j (by omega)
theorem spl_1 {p1 p2 : Int32} (c1 : ¬ p1 = 42) (c2 : ¬ p2 = 42) {pl : Nat} (h1 : 1 ≤ pl) (h4 : pl ≤ 4) : ¬ [42] = List.take pl [47, p1, 47, p2] ∧ ¬ ENDW (List.take pl [47, p1, 47, p2]) pl ∧ (List.take pl [47, p1, 47, p2]).length = pl := by
  refine ⟨?_, ?_, by rw [List.length_take]; show min pl 4 = pl; omega⟩
  · obtain ⟨k, rfl⟩ : ∃ k, pl = k + 1 := ⟨pl - 1, by omega⟩
    intro z
    exact absurd (List.cons.inj z).1 (by decide)
  · intro z
    rcases (by omega : pl = 1 ∨ pl = 2 ∨ pl = 3 ∨ pl = 4) with rfl | rfl | rfl | rfl
    · exact absurd z.1 (by decide)
    · exact c1 (z.2 1 (by decide))
    · exact absurd (show (47 : Int32) = 42 from z.2 1 (by decide)) (by decide)
    · exact c2 (z.2 1 (by decide))
theorem spl_2 {p1 p2 : Int32} {q : Nat} (h : q = 0 ∨ q = 2 ∨ q = 4) : ¬ [42] = List.take q [47, p1, 47, p2] ++ [47, 42] ∧ ENDW (List.take q [47, p1, 47, p2] ++ [47, 42]) (q + 2) ∧ (List.take q [47, p1, 47, p2] ++ [47, 42]).length = q + 2 ∧ List.take (q + 1) (List.take q [47, p1, 47, p2] ++ [47, 42]) = List.take (q + 1) [47, p1, 47, p2, 47] ∧ (List.take q [47, p1, 47, p2] ++ [47, 42]).getD q 0 = 47 ∧ ∀ j, j < q → (List.take q [47, p1, 47, p2] ++ [47, 42]).getD j 0 = ([47, p1, 47, p2] : List Int32).getD j 0 := by
  have t2 : ∀ {P : Nat → Prop}, P 0 → P 1 → ∀ j, j < 2 → P j := fun {P} a b j hj => by
    rcases (by omega : j = 0 ∨ j = 1) with rfl | rfl
    · exact a
    · exact b
  rcases h with rfl | rfl | rfl
  · exact ⟨fun z => absurd (List.cons.inj z).1 (by decide), ⟨by decide, t2 rfl rfl⟩, rfl, rfl, rfl, fun j hj => absurd hj (Nat.not_lt_zero _)⟩
  · exact ⟨fun z => absurd (List.cons.inj z).1 (by decide), ⟨by decide, t2 rfl rfl⟩, rfl, rfl, rfl, t2 rfl rfl⟩
  · exact ⟨fun z => absurd (List.cons.inj z).1 (by decide), ⟨by decide, t2 rfl rfl⟩, rfl, rfl, rfl, fun j hj => by
      rcases (by omega : j = 0 ∨ j = 1 ∨ j = 2 ∨ j = 3) with rfl | rfl | rfl | rfl <;> rfl⟩
theorem spl_ok {kd : Int32} {pl ql : Nat} {p1 p2 : Int32} {ps : List Int32} {sn : Nat} (S : SPL kd pl ql p1 p2 ps) (hs : ps.length = sn) (a1 : ¬ p1 = 47) (b1 : ¬ p1 = 63) (c1 : ¬ p1 = 42) (a2 : ¬ p2 = 47) (b2 : ¬ p2 = 63) (c2 : ¬ p2 = 42) (h1 : 1 ≤ pl) (h4 : pl ≤ 4) (hq : ql = 0 ∨ ql = 2 ∨ ql = 4) : OKP ps sn := by
  rcases S with ⟨_, S⟩ | ⟨_, _, rfl⟩ | ⟨_, _, rfl⟩
  · exact Or.inl S
  · obtain ⟨q1, q2, q3⟩ := spl_1 c1 c2 h1 h4
    rw [q3] at hs
    subst hs
    have q5 : List.take pl [47, p1, 47, p2] = List.take pl [47, p1, 47, p2, 47] := by
      rcases (by omega : pl = 1 ∨ pl = 2 ∨ pl = 3 ∨ pl = 4) with rfl | rfl | rfl | rfl <;> rfl
    exact Or.inr (Or.inr ⟨q2, by rw [q5]; exact qok_f a1 b1 c1 a2 b2 c2 h1 (by omega)⟩)
  · obtain ⟨q1, q2, q3, q4, q5, q6⟩ := spl_2 (p1 := p1) (p2 := p2) hq
    rw [q3] at hs
    subst hs
    exact Or.inr (Or.inl ⟨q2, by rw [show ql + 2 - 1 = ql + 1 from rfl, q4]; exact qok_f a1 b1 c1 a2 b2 c2 (by omega) (by omega)⟩)
theorem fin0 {kd : Int32} {pl ql : Nat} {p1 p2 : Int32} {ps ls : List Int32} {sn nm : Nat} (S : SPL kd pl ql p1 p2 ps) (h : kd = 0) : MATCH ps sn ls nm := Or.inl (S.elim (fun z => z.2) (fun z => absurd h (z.elim (fun y => y.1) (fun y => y.1))))
theorem fin1 {kd : Int32} {pl ql : Nat} {p1 p2 : Int32} {ps ls : List Int32} {sn nm nl : Nat} (S : SPL kd pl ql p1 p2 ps) (h0 : ¬ kd = 0) (h : kd = 1) (hs : ps.length = sn) (hl : ls.length = nm) (e : nl = nm) (c1 : ¬ p1 = 42) (c2 : ¬ p2 = 42) (h1 : 1 ≤ pl) (h4 : pl ≤ 4) : MATCH ps sn ls nm ↔ nl = pl ∧ pl ≤ nl ∧ ∀ j, j < pl → ls.getD j 0 = ([47, p1, 47, p2] : List Int32).getD j 0 := by
  rcases S with ⟨z, _⟩ | ⟨_, _, rfl⟩ | ⟨_, z, _⟩
  · exact absurd z h0
  · obtain ⟨q1, q2, q3⟩ := spl_1 c1 c2 h1 h4
    rw [q3] at hs
    subst hs; subst e
    constructor
    · intro M
      have g : ls = List.take pl [47, p1, 47, p2] := M.elim (fun z => absurd z q1) (fun z => z.2.elim (fun y => absurd y.1 q2) (fun y => y.2))
      have gl : nl = pl := by rw [← hl, g, q3]
      exact ⟨gl, by omega, fun j hj => by rw [g, tk_get hj]⟩
    · intro ⟨g1, g2, g3⟩
      exact Or.inr ⟨q1, Or.inr ⟨q2, ext0 (by omega) (fun j hj => by rw [tk_get (by omega)]; exact g3 j (by omega))⟩⟩
  · exact absurd h z
theorem fin2 {kd : Int32} {pl ql : Nat} {p1 p2 : Int32} {ps ls : List Int32} {sn nm nl : Nat} (S : SPL kd pl ql p1 p2 ps) (h0 : ¬ kd = 0) (h : ¬ kd = 1) (hs : ps.length = sn) (hl : ls.length = nm) (e : nl = nm) (hq : ql = 0 ∨ ql = 2 ∨ ql = 4) : MATCH ps sn ls nm ↔ (ql < nl ∧ (ql ≤ nl ∧ ∀ j, j < ql → ls.getD j 0 = ([47, p1, 47, p2] : List Int32).getD j 0) ∧ ls.getD ql 0 = 47) ∨ (0 < ql ∧ nl = ql ∧ ql ≤ nl ∧ ∀ j, j < ql → ls.getD j 0 = ([47, p1, 47, p2] : List Int32).getD j 0) := by
  rcases S with ⟨z, _⟩ | ⟨_, z, _⟩ | ⟨_, _, rfl⟩
  · exact absurd z h0
  · exact absurd z h
  · obtain ⟨q1, q2, q3, q4, q5, q6⟩ := spl_2 (p1 := p1) (p2 := p2) hq
    rw [q3] at hs
    subst hs; subst e
    have R : ∀ k, k ≤ ql + 1 → (REG ls (List.take ql [47, p1, 47, p2] ++ [47, 42]) k ↔ k ≤ nl ∧ ∀ j, j < k → ls.getD j 0 = (List.take ql [47, p1, 47, p2] ++ [47, 42]).getD j 0) := fun k hk => by
      unfold REG EQS
      rw [hl, q3]
      exact ⟨fun z => ⟨z.1, fun j hj => by have y := z.2.2 j hj; rw [Nat.zero_add] at y; exact y⟩, fun z => ⟨z.1, by omega, fun j hj => by rw [Nat.zero_add]; exact z.2 j hj⟩⟩
    have A : MATCH (List.take ql [47, p1, 47, p2] ++ [47, 42]) (ql + 2) ls nl ↔ (REG ls (List.take ql [47, p1, 47, p2] ++ [47, 42]) (ql + 1) ∨ (0 < ql ∧ nl = ql ∧ REG ls (List.take ql [47, p1, 47, p2] ++ [47, 42]) ql)) :=
      ⟨fun M => M.elim (fun z => absurd z q1) (fun z => z.2.elim (fun y => y.2) (fun y => absurd q2 y.1)), fun z => Or.inr ⟨q1, Or.inl ⟨q2, z⟩⟩⟩
    rw [A, R (ql + 1) (Nat.le_refl _), R ql (by omega)]
    constructor
    · rintro (⟨z1, z2⟩ | ⟨z1, z2, z3, z4⟩)
      · exact Or.inl ⟨by omega, ⟨by omega, fun j hj => (z2 j (by omega)).trans (q6 j hj)⟩, (z2 ql (by omega)).trans q5⟩
      · exact Or.inr ⟨z1, z2, z3, fun j hj => (z4 j hj).trans (q6 j hj)⟩
    · rintro (⟨z1, ⟨z2, z3⟩, z4⟩ | ⟨z1, z2, z3, z4⟩)
      · refine Or.inl ⟨by omega, fun j hj => ?_⟩
        rcases Nat.lt_or_eq_of_le (Nat.le_of_lt_succ hj) with y | rfl
        · exact (z3 j y).trans (q6 j y).symm
        · exact z4.trans q5.symm
      · exact Or.inr ⟨z1, z2, z3, fun j hj => (z4 j hj).trans (q6 j hj).symm⟩
theorem wd3 (hw : HW a0 Z) : BW a0 Z (.code ⟨sT3, "segChar", "(I)C"⟩ kC54 (2 : Nat) (Option.some Jvm.ClassFile.FieldType.char)) := wat hw 3 rfl
theorem wd2 (hw : HW a0 Z) : BW a0 Z (.initialized sT3) := wat hw 2 rfl
theorem wd0 (hw : HW a0 Z) : BW a0 Z (.methodLink sT3 (7 : Nat) ⟨sT3, "segChar", "(I)C"⟩) := wat hw 0 rfl
theorem wd1 (hw : HW a0 Z) : BW a0 Z (.static ⟨sT3, "segChar", "(I)C"⟩) := wat hw 1 rfl
theorem wd7 (hw : HW a0 Z) : BW a0 Z (.code ⟨sT3, "spell", "(IIICC)Ljava/lang/String;"⟩ kC55 (5 : Nat) (Option.some (Jvm.ClassFile.FieldType.object sT0))) := wat hw 7 rfl
theorem pd37 : parseMethodDescriptor "(IIICC)Ljava/lang/String;" = some ⟨[.int, .int, .int, .char, .char], some (.object "java/lang/String")⟩ := by decide +kernel
theorem wd5 (hw : HW a0 Z) : BW a0 Z (.methodLink sT3 (13 : Nat) ⟨sT3, "spell", "(IIICC)Ljava/lang/String;"⟩) := wat hw 5 rfl
theorem wd6 (hw : HW a0 Z) : BW a0 Z (.static ⟨sT3, "spell", "(IIICC)Ljava/lang/String;"⟩) := wat hw 6 rfl
theorem wd16 (hw : HW a0 Z) : BW a0 Z (.constantLong sT3 (17 : Nat) (1023 : Int64)) := wat hw 16 rfl
theorem wd19 (hw : HW a0 Z) : BW a0 Z (.code ⟨sT3, "draw", "(ICC)C"⟩ kC56 (5 : Nat) (Option.some Jvm.ClassFile.FieldType.char)) := wat hw 19 rfl
theorem pd38 : parseMethodDescriptor "(ICC)C" = some ⟨[.int, .char, .char], some .char⟩ := by decide +kernel
theorem wd17 (hw : HW a0 Z) : BW a0 Z (.methodLink sT3 (19 : Nat) ⟨sT3, "draw", "(ICC)C"⟩) := wat hw 17 rfl
theorem wd18 (hw : HW a0 Z) : BW a0 Z (.static ⟨sT3, "draw", "(ICC)C"⟩) := wat hw 18 rfl
theorem wd20 (hw : HW a0 Z) : BW a0 Z (.constant sT3 (23 : Nat) (2147483647 : Int32)) := wat hw 20 rfl
theorem wd23 (hw : HW a0 Z) : BW a0 Z (.code ⟨sT3, "text", "([CI)Ljava/lang/String;"⟩ kC58 (2 : Nat) (Option.some (Jvm.ClassFile.FieldType.object sT0))) := wat hw 23 rfl
theorem pd39 : parseMethodDescriptor "([CI)Ljava/lang/String;" = some ⟨[(.array .char), .int], some (.object "java/lang/String")⟩ := by decide +kernel
theorem wd21 (hw : HW a0 Z) : BW a0 Z (.methodLink sT3 (24 : Nat) ⟨sT3, "text", "([CI)Ljava/lang/String;"⟩) := wat hw 21 rfl
theorem wd22 (hw : HW a0 Z) : BW a0 Z (.static ⟨sT3, "text", "([CI)Ljava/lang/String;"⟩) := wat hw 22 rfl
theorem wd25 (hw : HW a0 Z) : BW a0 Z (.classLink sT3 (28 : Nat) sT2) := wat hw 25 rfl
theorem wd30 (hw : HW a0 Z) : BW a0 Z (.code ⟨sT2, "<init>", "(Ljava/lang/String;)V"⟩ kC19 (2 : Nat) (Option.none : Option Jvm.ClassFile.FieldType)) := wat hw 30 rfl
theorem pd40 : parseMethodDescriptor "(Ljava/lang/String;)V" = some ⟨[(.object "java/lang/String")], none⟩ := by decide +kernel
theorem wd28 (hw : HW a0 Z) : BW a0 Z (.methodLink sT3 (30 : Nat) ⟨sT2, "<init>", "(Ljava/lang/String;)V"⟩) := wat hw 28 rfl
theorem wd29 (hw : HW a0 Z) : BW a0 Z (.instanceMethod ⟨sT2, "<init>", "(Ljava/lang/String;)V"⟩) := wat hw 29 rfl
theorem wd78 (hw : HW a0 Z) : BW a0 Z (.code ⟨sT2, "matches", sT6⟩ kC22 (7 : Nat) (Option.some Jvm.ClassFile.FieldType.boolean)) := wat hw 78 rfl
theorem wd77 (hw : HW a0 Z) : BW a0 Z (.selects sT2 ⟨sT2, "matches", sT6⟩ ⟨sT2, "matches", sT6⟩) := wat hw 77 rfl
theorem wd74 (hw : HW a0 Z) : BW a0 Z (.methodLink sT3 (33 : Nat) ⟨sT2, "matches", sT6⟩) := wat hw 74 rfl
theorem wd75 (hw : HW a0 Z) : BW a0 Z (.declares ⟨sT2, "matches", sT6⟩) := wat hw 75 rfl
theorem wd76 (hw : HW a0 Z) : BW a0 Z (.instanceMethod ⟨sT2, "matches", sT6⟩) := wat hw 76 rfl
theorem wd136 (hw : HW a0 Z) : BW a0 Z (.code ⟨sT3, "put", "([CII[CI)I"⟩ kC57 (5 : Nat) (Option.some Jvm.ClassFile.FieldType.int)) := wat hw 136 rfl
theorem pd41 : parseMethodDescriptor "([CII[CI)I" = some ⟨[(.array .char), .int, .int, (.array .char), .int], some .int⟩ := by decide +kernel
theorem wd134 (hw : HW a0 Z) : BW a0 Z (.methodLink sT3 (37 : Nat) ⟨sT3, "put", "([CII[CI)I"⟩) := wat hw 134 rfl
theorem wd135 (hw : HW a0 Z) : BW a0 Z (.static ⟨sT3, "put", "([CII[CI)I"⟩) := wat hw 135 rfl
theorem wd220 (hw : HW a0 Z) : BW a0 Z (.code ⟨sT3, "eqP", "([CI[CI)Z"⟩ kC59 (4 : Nat) (Option.some Jvm.ClassFile.FieldType.boolean)) := wat hw 220 rfl
theorem pd42 : parseMethodDescriptor "([CI[CI)Z" = some ⟨[(.array .char), .int, (.array .char), .int], some .boolean⟩ := by decide +kernel
theorem wd218 (hw : HW a0 Z) : BW a0 Z (.methodLink sT3 (41 : Nat) ⟨sT3, "eqP", "([CI[CI)Z"⟩) := wat hw 218 rfl
theorem wd219 (hw : HW a0 Z) : BW a0 Z (.static ⟨sT3, "eqP", "([CI[CI)Z"⟩) := wat hw 219 rfl
def Q_law (Z : State) (zC : Int32) (vF : Value) (x0 x1 : Int32) (x2 : Int64) (x3 : Int32) (h0 : Heap) (v : Option Value) (h : Heap) (L : List Loc) : Prop := v = some (iv 1) ∧ Fr Z.heap.size L ∧ True
theorem rm_law (l : Launch) (Z : State) (a0 : Array Value) (hw : HW a0 Z) (zC : Int32) (vF : Value) (G : GB l a0 Z zC vF) (x0 x1 : Int32) (x2 : Int64) (x3 : Int32) (h0 : Heap) (O0 : Old Z Z.heap.size h0)  :
    ConS l Z EL (⟨sT3, "law", "(IIJI)Z"⟩ : MethodName) code 22 (some .boolean) room_1 #[(.int x0), (.int x1), (.long x2), (.int x3)] h0 [] (Q_law Z zC vF x0 x1 x2 x3 h0) := by
 refine ConS.intro (plainFor_of_name pn11) ?_
 intro p e s m below meth c T0 v0 X0 hx Y hml hown0 hnm hret hlk hZ0 e0 hS0 C0 hsl0
 have N0 := Fr.nil Z.heap.size
 refine castGo (g' := mkF m 0 #[vi x0, vi x1, .val (.long x2), .second, vi x3, uS, uS, uS, uS, uS, uS, uS, uS, uS, uS, uS, uS, uS, uS, uS, uS, uS] []) (by simp [entryFrame, mkF, argsToLocals, Value.category]) ?_
 show Go _ _ _ _ (T0.setTop (mkF m 0 #[vi x0, vi x1, .val (.long x2), .second, vi x3, uS, uS, uS, uS, uS, uS, uS, uS, uS, uS, uS, uS, uS, uS, uS, uS, uS] []))
 refine iL X0 hx (hb Y at_0) (q := 1) rfl rfl ?_
 refine cI X0 hx (hb Y at_1) (q := 2) rfl (z := 3) rfl ?_
 refine g_iand X0 hx (hb Y at_2) (q := 3) rfl rfl ?_
 obtain ⟨kd, ge21⟩ : ∃ c, c = (x0 &&& (3 : Int32)) := ⟨_, rfl⟩
 rw [← ge21]
 refine sIw X0 hx (hb Y at_3) (q := 5) rfl (Ls' := #[vi x0, vi x1, .val (.long x2), .second, vi x3, vi kd, uS, uS, uS, uS, uS, uS, uS, uS, uS, uS, uS, uS, uS, uS, uS, uS]) rfl ?_
 refine iL X0 hx (hb Y at_5) (q := 6) rfl rfl ?_
 refine cI X0 hx (hb Y at_6) (q := 7) rfl (z := 2) rfl ?_
 refine g_iushr X0 hx (hb Y at_7) (q := 8) rfl rfl ?_
 refine cI X0 hx (hb Y at_8) (q := 9) rfl (z := 3) rfl ?_
 refine g_iand X0 hx (hb Y at_9) (q := 10) rfl rfl ?_
 obtain ⟨sh, esh, hsh⟩ := own_sh ((x0.toUInt32 >>> ((2 : Int32) &&& 31).toUInt32).toInt32)
 rw [esh]
 refine sIw X0 hx (hb Y at_10) (q := 12) rfl (Ls' := #[vi x0, vi x1, .val (.long x2), .second, vi x3, vi kd, vi (Int32.ofNat sh), uS, uS, uS, uS, uS, uS, uS, uS, uS, uS, uS, uS, uS, uS, uS]) rfl ?_
 refine iL X0 hx (hb Y at_12) (q := 13) rfl rfl ?_
 refine g_st X0 hx hZ0 hown0 (wd0 hw) (wd1 hw) (wd2 hw) (wd3 hw) (by decide) e0 (Con.back (W := 0) (rm_seg l Z a0 hw zC vF G x1 h0 O0 ) hZ0 (wd3 hw) (wd2 hw) (by decide) (by decide)) (by rw [hml]; rfl) (lenOf pd29 rfl) rfl (Nat.le_of_eq rfl) (hb Y at_13) (q := 16) rfl (by decide) (by decide) ?_
 intro v22 T22 L22 X22 Q22
 obtain ⟨yc_22, rfl, Nq22, e22, q22_0, q22_1, q22_2, q22_3, q22_4⟩ := Q22
 have N22 := Fr.app N0 Nq22
 show Go _ _ _ _ (T22.setTop (mkF m 16 _ [(.int yc_22)]))
 refine sIw X22 hx (hb Y at_16) (q := 18) rfl (Ls' := #[vi x0, vi x1, .val (.long x2), .second, vi x3, vi kd, vi (Int32.ofNat sh), vi yc_22, uS, uS, uS, uS, uS, uS, uS, uS, uS, uS, uS, uS, uS, uS]) rfl ?_
 refine iL X22 hx (hb Y at_18) (q := 19) rfl rfl ?_
 refine bI X22 hx (hb Y at_19) (q := 21) rfl (z := 8) rfl ?_
 refine g_iushr X22 hx (hb Y at_21) (q := 22) rfl rfl ?_
 refine g_st X22 hx hZ0 hown0 (wd0 hw) (wd1 hw) (wd2 hw) (wd3 hw) (by decide) e22 (Con.back (W := 0) (rm_seg l Z a0 hw zC vF G ((x1.toUInt32 >>> ((8 : Int32) &&& 31).toUInt32).toInt32) h0 O0 ) hZ0 (wd3 hw) (wd2 hw) (by decide) (by decide)) (by rw [hml]; rfl) (lenOf pd29 rfl) rfl (Nat.le_of_eq rfl) (hb Y at_22) (q := 25) rfl (by decide) (by decide) ?_
 intro v23 T23 L23 X23 Q23
 obtain ⟨yc_23, rfl, Nq23, e23, q23_0, q23_1, q23_2, q23_3, q23_4⟩ := Q23
 have N23 := Fr.app N22 Nq23
 show Go _ _ _ _ (T23.setTop (mkF m 25 _ [(.int yc_23)]))
 refine sIw X23 hx (hb Y at_25) (q := 27) rfl (Ls' := #[vi x0, vi x1, .val (.long x2), .second, vi x3, vi kd, vi (Int32.ofNat sh), vi yc_22, vi yc_23, uS, uS, uS, uS, uS, uS, uS, uS, uS, uS, uS, uS, uS]) rfl ?_
 refine cI X23 hx (hb Y at_27) (q := 28) rfl (z := 4) rfl ?_
 refine g_newA X23 hx hZ0 (aty := .char) (wd4 hw) (by decide) (n := 4) (by decide) (by decide) (by decide) (by decide) e23 (hb Y at_28) (q := 30) rfl ?_
 intro T24 h24 k24 b24 g24 X24 e24 E24 V24
 have Va24 : Arv Z h24 b24 k24 .char (4 : Int32) [(iv 0), (iv 0), (iv 0), (iv 0)] (.int 0) := V24
 refine g_dup X24 hx (hb Y at_30) (q := 31) rfl rfl ?_
 refine cI X24 hx (hb Y at_31) (q := 32) rfl (z := 0) rfl ?_
 refine bI X24 hx (hb Y at_32) (q := 34) rfl (z := 47) rfl ?_
 have gz26 : Z.heap.size ≤ b24 := Nat.le_trans O0.2.1 (Nat.le_of_eq g24.symm)
 have f27 := C0.trans (CHr.ext E24 C0.1)
 refine g_stC X24 hx hZ0 Va24 (i := 0) (by decide) (by decide) (by decide) (Nat.le_of_ble_eq_true rfl) (y := (47 : Int32)) (by decide) e24 (hb Y at_34) (q := 35) rfl ?_
 intro T25 h25 X25 e25 W25 V25
 have N25 := Fr.snoc X25 N23 gz26
 have Va25 : Arv Z h25 b24 k24 .char (4 : Int32) [(iv 47), (iv 0), (iv 0), (iv 0)] (.int 0) := V25
 refine g_dup X25 hx (hb Y at_35) (q := 36) rfl rfl ?_
 refine cI X25 hx (hb Y at_36) (q := 37) rfl (z := 1) rfl ?_
 refine iLw X25 hx (hb Y at_37) (q := 39) rfl rfl ?_
 have f29 := f27.trans (CHr.wr W25 (Safe.arv hZ0.alike Va24 (by decide)) f27.1)
 refine g_stC X25 hx hZ0 Va25 (i := 1) (by decide) (by decide) (by decide) (Nat.le_of_ble_eq_true rfl) (y := yc_22) (nar_of255 q22_0 q22_1) e25 (hb Y at_39) (q := 40) rfl ?_
 intro T28 h28 X28 e28 W28 V28
 have N28 := Fr.snoc X28 N25 gz26
 have Va28 : Arv Z h28 b24 k24 .char (4 : Int32) [(iv 47), (.int yc_22), (iv 0), (iv 0)] (.int 0) := V28
 refine g_dup X28 hx (hb Y at_40) (q := 41) rfl rfl ?_
 refine cI X28 hx (hb Y at_41) (q := 42) rfl (z := 2) rfl ?_
 refine bI X28 hx (hb Y at_42) (q := 44) rfl (z := 47) rfl ?_
 have f31 := f29.trans (CHr.wr W28 (Safe.arv hZ0.alike Va25 (by decide)) f29.1)
 refine g_stC X28 hx hZ0 Va28 (i := 2) (by decide) (by decide) (by decide) (Nat.le_of_ble_eq_true rfl) (y := (47 : Int32)) (by decide) e28 (hb Y at_44) (q := 45) rfl ?_
 intro T30 h30 X30 e30 W30 V30
 have N30 := Fr.snoc X30 N28 gz26
 have Va30 : Arv Z h30 b24 k24 .char (4 : Int32) [(iv 47), (.int yc_22), (iv 47), (iv 0)] (.int 0) := V30
 refine g_dup X30 hx (hb Y at_45) (q := 46) rfl rfl ?_
 refine cI X30 hx (hb Y at_46) (q := 47) rfl (z := 3) rfl ?_
 refine iLw X30 hx (hb Y at_47) (q := 49) rfl rfl ?_
 have f33 := f31.trans (CHr.wr W30 (Safe.arv hZ0.alike Va28 (by decide)) f31.1)
 refine g_stC X30 hx hZ0 Va30 (i := 3) (by decide) (by decide) (by decide) (Nat.le_of_ble_eq_true rfl) (y := yc_23) (nar_of255 q23_0 q23_1) e30 (hb Y at_49) (q := 50) rfl ?_
 intro T32 h32 X32 e32 W32 V32
 have N32 := Fr.snoc X32 N30 gz26
 have Va32 : Arv Z h32 b24 k24 .char (4 : Int32) [(iv 47), (.int yc_22), (iv 47), (.int yc_23)] (.int 0) := V32
 refine sAw X32 hx (hb Y at_50) (q := 52) rfl rfl (Ls' := #[vi x0, vi x1, .val (.long x2), .second, vi x3, vi kd, vi (Int32.ofNat sh), vi yc_22, vi yc_23, vr b24, uS, uS, uS, uS, uS, uS, uS, uS, uS, uS, uS, uS]) rfl ?_
 refine iLw X32 hx (hb Y at_52) (q := 54) rfl rfl ?_
 refine cI X32 hx (hb Y at_54) (q := 55) rfl (z := 1) rfl ?_
 refine g_iadd X32 hx (hb Y at_55) (q := 56) rfl (z := (Int32.ofNat (sh + 1))) (on_add (sh) 1) ?_
 obtain ⟨pl, epl⟩ : ∃ p, p = sh + 1 := ⟨_, rfl⟩
 rw [← epl]
 have pl1 : 1 ≤ pl := by omega
 have pl4 : pl ≤ 4 := by omega
 refine sIw X32 hx (hb Y at_56) (q := 58) rfl (Ls' := #[vi x0, vi x1, .val (.long x2), .second, vi x3, vi kd, vi (Int32.ofNat sh), vi yc_22, vi yc_23, vr b24, vi (Int32.ofNat pl), uS, uS, uS, uS, uS, uS, uS, uS, uS, uS, uS]) rfl ?_
 suffices kk34 : ∀ ql : Nat, QLP pl ql → Go p.tables e below (SEnd Z EL s (Q_law Z zC vF x0 x1 x2 x3 h0) room_1.cells room_1.slots) (T32.setTop (mkF m 81 #[vi x0, vi x1, .val (.long x2), .second, vi x3, vi kd, vi (Int32.ofNat sh), vi yc_22, vi yc_23, vr b24, vi (Int32.ofNat pl), vi (Int32.ofNat ql), uS, uS, uS, uS, uS, uS, uS, uS, uS, uS] [])) by
  rcases (by omega : pl = 1 ∨ pl = 2 ∨ pl = 3 ∨ pl = 4) with hp | hp | hp | hp
  ·refine iLw X32 hx (hb Y at_58) (q := 60) rfl rfl ?_
   refine cI X32 hx (hb Y at_60) (q := 61) rfl (z := 1) rfl ?_
   refine icY X32 hx (hb Y at_61) (q := 70) (by decide) (by decide) (teq (show Int32.ofNat (pl) = Int32.ofNat (1) from congrArg Int32.ofNat (show pl = 1 from by omega))).1 ?_
   refine iLw X32 hx (hb Y at_70) (q := 72) rfl rfl ?_
   refine cI X32 hx (hb Y at_72) (q := 73) rfl (z := 1) rfl ?_
   refine g_isub X32 hx (hb Y at_73) (q := 74) rfl (z := (Int32.ofNat (pl - 1))) (on_sub (show 1 ≤ pl from by omega) (show pl < 2147483648 from by omega)) ?_
   refine g_goto X32 hx (hb Y at_74) (q := 79) (by decide) (by decide) ?_
   refine sIw X32 hx (hb Y at_79) (q := 81) rfl (Ls' := #[vi x0, vi x1, .val (.long x2), .second, vi x3, vi kd, vi (Int32.ofNat sh), vi yc_22, vi yc_23, vr b24, vi (Int32.ofNat pl), vi (Int32.ofNat (pl - 1)), uS, uS, uS, uS, uS, uS, uS, uS, uS, uS]) rfl ?_
   exact kk34 (pl - 1) (show QLP pl (pl - 1) from by unfold QLP; omega)
  ·refine iLw X32 hx (hb Y at_58) (q := 60) rfl rfl ?_
   refine cI X32 hx (hb Y at_60) (q := 61) rfl (z := 1) rfl ?_
   refine icN X32 hx (hb Y at_61) (q := 64) rfl (feq (on_neq (show ¬ pl = 1 from by omega) (show pl < 2147483648 from by omega) (show 1 < 2147483648 from by omega))).1 ?_
   refine iLw X32 hx (hb Y at_64) (q := 66) rfl rfl ?_
   refine cI X32 hx (hb Y at_66) (q := 67) rfl (z := 3) rfl ?_
   refine icY X32 hx (hb Y at_67) (q := 77) (by decide) (by decide) (feq (on_neq (show ¬ pl = 3 from by omega) (show pl < 2147483648 from by omega) (show 3 < 2147483648 from by omega))).2 ?_
   refine iLw X32 hx (hb Y at_77) (q := 79) rfl rfl ?_
   refine sIw X32 hx (hb Y at_79) (q := 81) rfl (Ls' := #[vi x0, vi x1, .val (.long x2), .second, vi x3, vi kd, vi (Int32.ofNat sh), vi yc_22, vi yc_23, vr b24, vi (Int32.ofNat pl), vi (Int32.ofNat pl), uS, uS, uS, uS, uS, uS, uS, uS, uS, uS]) rfl ?_
   exact kk34 pl (show QLP pl pl from by unfold QLP; omega)
  ·refine iLw X32 hx (hb Y at_58) (q := 60) rfl rfl ?_
   refine cI X32 hx (hb Y at_60) (q := 61) rfl (z := 1) rfl ?_
   refine icN X32 hx (hb Y at_61) (q := 64) rfl (feq (on_neq (show ¬ pl = 1 from by omega) (show pl < 2147483648 from by omega) (show 1 < 2147483648 from by omega))).1 ?_
   refine iLw X32 hx (hb Y at_64) (q := 66) rfl rfl ?_
   refine cI X32 hx (hb Y at_66) (q := 67) rfl (z := 3) rfl ?_
   refine icN X32 hx (hb Y at_67) (q := 70) rfl (teq (show Int32.ofNat (pl) = Int32.ofNat (3) from congrArg Int32.ofNat (show pl = 3 from by omega))).2 ?_
   refine iLw X32 hx (hb Y at_70) (q := 72) rfl rfl ?_
   refine cI X32 hx (hb Y at_72) (q := 73) rfl (z := 1) rfl ?_
   refine g_isub X32 hx (hb Y at_73) (q := 74) rfl (z := (Int32.ofNat (pl - 1))) (on_sub (show 1 ≤ pl from by omega) (show pl < 2147483648 from by omega)) ?_
   refine g_goto X32 hx (hb Y at_74) (q := 79) (by decide) (by decide) ?_
   refine sIw X32 hx (hb Y at_79) (q := 81) rfl (Ls' := #[vi x0, vi x1, .val (.long x2), .second, vi x3, vi kd, vi (Int32.ofNat sh), vi yc_22, vi yc_23, vr b24, vi (Int32.ofNat pl), vi (Int32.ofNat (pl - 1)), uS, uS, uS, uS, uS, uS, uS, uS, uS, uS]) rfl ?_
   exact kk34 (pl - 1) (show QLP pl (pl - 1) from by unfold QLP; omega)
  ·refine iLw X32 hx (hb Y at_58) (q := 60) rfl rfl ?_
   refine cI X32 hx (hb Y at_60) (q := 61) rfl (z := 1) rfl ?_
   refine icN X32 hx (hb Y at_61) (q := 64) rfl (feq (on_neq (show ¬ pl = 1 from by omega) (show pl < 2147483648 from by omega) (show 1 < 2147483648 from by omega))).1 ?_
   refine iLw X32 hx (hb Y at_64) (q := 66) rfl rfl ?_
   refine cI X32 hx (hb Y at_66) (q := 67) rfl (z := 3) rfl ?_
   refine icY X32 hx (hb Y at_67) (q := 77) (by decide) (by decide) (feq (on_neq (show ¬ pl = 3 from by omega) (show pl < 2147483648 from by omega) (show 3 < 2147483648 from by omega))).2 ?_
   refine iLw X32 hx (hb Y at_77) (q := 79) rfl rfl ?_
   refine sIw X32 hx (hb Y at_79) (q := 81) rfl (Ls' := #[vi x0, vi x1, .val (.long x2), .second, vi x3, vi kd, vi (Int32.ofNat sh), vi yc_22, vi yc_23, vr b24, vi (Int32.ofNat pl), vi (Int32.ofNat pl), uS, uS, uS, uS, uS, uS, uS, uS, uS, uS]) rfl ?_
   exact kk34 pl (show QLP pl pl from by unfold QLP; omega)
 intro ql h34
 have hq3 : ql = 0 ∨ ql = 2 ∨ ql = 4 := by unfold QLP at h34; omega
 refine iLw X32 hx (hb Y at_81) (q := 83) rfl rfl ?_
 refine iLw X32 hx (hb Y at_83) (q := 85) rfl rfl ?_
 refine iLw X32 hx (hb Y at_85) (q := 87) rfl rfl ?_
 refine iLw X32 hx (hb Y at_87) (q := 89) rfl rfl ?_
 refine iLw X32 hx (hb Y at_89) (q := 91) rfl rfl ?_
 have f40 := O0.ext E24
 have f41 := f40.wr W25 gz26
 have f42 := f41.wr W28 gz26
 have f43 := f42.wr W30 gz26
 have f44 := f43.wr W32 gz26
 have f45 := f33.trans (CHr.wr W32 (Safe.arv hZ0.alike Va30 (by decide)) f33.1)
 refine g_stS X32 hx hZ0 hown0 hS0 (Nat.zero_le _) (wd5 hw) (wd6 hw) (wd2 hw) (wd7 hw) (by decide) e32 (ConS.back (W := 0) (rm_spell l Z a0 hw zC vF G kd pl ql yc_22 yc_23 h32 f44 q22_0 q22_1 q23_0 q23_1 (show 1 ≤ pl from by omega) (show pl ≤ 4 from by omega) hq3) hZ0 (wd7 hw) (wd2 hw) (by decide) (by decide) (own_EW hw) f45.1 sf0 all0) (by rw [hml]; rfl) (lenOf pd37 rfl) rfl (Nat.le_of_eq rfl) (hb Y at_91) (q := 94) rfl (by decide) (by decide) ?_
 rintro v39 T39 L39 ⟨X39, hS39, hZ39, hown39, R39⟩ Q39
 obtain ⟨r_39, ct_39, kc_39, ps_39, sn_39, rfl, Nq39, K39q, q39_0, q39_1, q39_2, q39_3, q39_4, q39_5, q39_6, q39_7⟩ := Q39
 have N39 := Fr.app N32 Nq39
 show Go _ _ _ _ (T39.setTop (mkF m 94 _ [(.ref r_39)]))
 refine sAw X39 hx (hb Y at_94) (q := 96) rfl rfl (Ls' := #[vi x0, vi x1, .val (.long x2), .second, vi x3, vi kd, vi (Int32.ofNat sh), vi yc_22, vi yc_23, vr b24, vi (Int32.ofNat pl), vi (Int32.ofNat ql), vr r_39, uS, uS, uS, uS, uS, uS, uS, uS, uS]) rfl ?_
 refine cI X39 hx (hb Y at_96) (q := 97) rfl (z := 5) rfl ?_
 refine g_newA X39 hx hZ39 (aty := .char) (wd4 hw) (by decide) (n := 5) (by decide) (by decide) (by decide) (by decide) rfl (hb Y at_97) (q := 99) rfl ?_
 intro T46 h46 k46 b46 g46 X46 e46 E46 V46
 have Va46 : Arv Z h46 b46 k46 .char (5 : Int32) [(iv 0), (iv 0), (iv 0), (iv 0), (iv 0)] (.int 0) := V46
 refine sAw X46 hx (hb Y at_99) (q := 101) rfl rfl (Ls' := #[vi x0, vi x1, .val (.long x2), .second, vi x3, vi kd, vi (Int32.ofNat sh), vi yc_22, vi yc_23, vr b24, vi (Int32.ofNat pl), vi (Int32.ofNat ql), vr r_39, vr b46, uS, uS, uS, uS, uS, uS, uS, uS]) rfl ?_
 refine aLw X46 hx (hb Y at_101) (q := 103) rfl rfl rfl ?_
 refine cI X46 hx (hb Y at_103) (q := 104) rfl (z := 0) rfl ?_
 refine lL X46 hx (hb Y at_104) (q := 105) rfl rfl ?_
 refine g_ldcJ X46 hx (a1 := #[]) hZ39 hown39 (wd16 hw) (hb Y at_105) (q := 108) rfl ?_
 refine g_land X46 hx (hb Y at_108) (q := 109) rfl rfl ?_
 refine g_l2i X46 hx (hb Y at_109) (q := 110) rfl rfl ?_
 refine iLw X46 hx (hb Y at_110) (q := 112) rfl rfl ?_
 refine iLw X46 hx (hb Y at_112) (q := 114) rfl rfl ?_
 have f48 := f44.keep K39q all0
 have f49 := f48.ext E46
 refine g_st X46 hx hZ39 hown39 (wd17 hw) (wd18 hw) (wd2 hw) (wd19 hw) (by decide) e46 (Con.back (W := 2) (rm_draw l Z a0 hw zC vF G ((x2 &&& (1023 : Int64)).toInt32) yc_22 yc_23 h46 f49 q22_0 q22_1 q23_0 q23_1) hZ39 (wd19 hw) (wd2 hw) (by decide) (by decide)) (by rw [hml]; rfl) (lenOf pd38 rfl) rfl (Nat.le_of_eq rfl) (hb Y at_114) (q := 117) rfl (by decide) (by decide) ?_
 intro v47 T47 L47 X47 Q47
 obtain ⟨yc_47, rfl, Nq47, e47, q47_0, q47_1⟩ := Q47
 have N47 := Fr.app N39 Nq47
 show Go _ _ _ _ (T47.setTop (mkF m 117 _ [(.int yc_47), (iv 0), (.ref b46)]))
 have gz51 : Z.heap.size ≤ b46 := Nat.le_trans f48.2.1 (Nat.le_of_eq g46.symm)
 have f52 := f45.trans R39
 have f53 := f52.trans (CHr.ext E46 f52.1)
 refine g_stC X47 hx hZ39 Va46 (i := 0) (by decide) (by decide) (by decide) (Nat.le_of_ble_eq_true rfl) (y := yc_47) (nar_of255 q47_0 q47_1) e47 (hb Y at_117) (q := 118) rfl ?_
 intro T50 h50 X50 e50 W50 V50
 have N50 := Fr.snoc X50 N47 gz51
 have Va50 : Arv Z h50 b46 k46 .char (5 : Int32) [(.int yc_47), (iv 0), (iv 0), (iv 0), (iv 0)] (.int 0) := V50
 refine aLw X50 hx (hb Y at_118) (q := 120) rfl rfl rfl ?_
 refine cI X50 hx (hb Y at_120) (q := 121) rfl (z := 1) rfl ?_
 refine lL X50 hx (hb Y at_121) (q := 122) rfl rfl ?_
 refine bI X50 hx (hb Y at_122) (q := 124) rfl (z := 10) rfl ?_
 refine g_lushr X50 hx (hb Y at_124) (q := 125) rfl rfl ?_
 refine g_ldcJ X50 hx (a1 := #[]) hZ39 hown39 (wd16 hw) (hb Y at_125) (q := 128) rfl ?_
 refine g_land X50 hx (hb Y at_128) (q := 129) rfl rfl ?_
 refine g_l2i X50 hx (hb Y at_129) (q := 130) rfl rfl ?_
 refine iLw X50 hx (hb Y at_130) (q := 132) rfl rfl ?_
 refine iLw X50 hx (hb Y at_132) (q := 134) rfl rfl ?_
 have f55 := f49.wr W50 gz51
 refine g_st X50 hx hZ39 hown39 (wd17 hw) (wd18 hw) (wd2 hw) (wd19 hw) (by decide) e50 (Con.back (W := 2) (rm_draw l Z a0 hw zC vF G ((((x2.toUInt64 >>> ((10 : Int32) &&& 0x3f).toInt64.toUInt64).toInt64) &&& (1023 : Int64)).toInt32) yc_22 yc_23 h50 f55 q22_0 q22_1 q23_0 q23_1) hZ39 (wd19 hw) (wd2 hw) (by decide) (by decide)) (by rw [hml]; rfl) (lenOf pd38 rfl) rfl (Nat.le_of_eq rfl) (hb Y at_134) (q := 137) rfl (by decide) (by decide) ?_
 intro v54 T54 L54 X54 Q54
 obtain ⟨yc_54, rfl, Nq54, e54, q54_0, q54_1⟩ := Q54
 have N54 := Fr.app N50 Nq54
 show Go _ _ _ _ (T54.setTop (mkF m 137 _ [(.int yc_54), (iv 1), (.ref b46)]))
 have f57 := f53.trans (CHr.wr W50 (Safe.arv hZ39.alike Va46 (by decide)) f53.1)
 refine g_stC X54 hx hZ39 Va50 (i := 1) (by decide) (by decide) (by decide) (Nat.le_of_ble_eq_true rfl) (y := yc_54) (nar_of255 q54_0 q54_1) e54 (hb Y at_137) (q := 138) rfl ?_
 intro T56 h56 X56 e56 W56 V56
 have N56 := Fr.snoc X56 N54 gz51
 have Va56 : Arv Z h56 b46 k46 .char (5 : Int32) [(.int yc_47), (.int yc_54), (iv 0), (iv 0), (iv 0)] (.int 0) := V56
 refine aLw X56 hx (hb Y at_138) (q := 140) rfl rfl rfl ?_
 refine cI X56 hx (hb Y at_140) (q := 141) rfl (z := 2) rfl ?_
 refine lL X56 hx (hb Y at_141) (q := 142) rfl rfl ?_
 refine bI X56 hx (hb Y at_142) (q := 144) rfl (z := 20) rfl ?_
 refine g_lushr X56 hx (hb Y at_144) (q := 145) rfl rfl ?_
 refine g_ldcJ X56 hx (a1 := #[]) hZ39 hown39 (wd16 hw) (hb Y at_145) (q := 148) rfl ?_
 refine g_land X56 hx (hb Y at_148) (q := 149) rfl rfl ?_
 refine g_l2i X56 hx (hb Y at_149) (q := 150) rfl rfl ?_
 refine iLw X56 hx (hb Y at_150) (q := 152) rfl rfl ?_
 refine iLw X56 hx (hb Y at_152) (q := 154) rfl rfl ?_
 have f59 := f55.wr W56 gz51
 refine g_st X56 hx hZ39 hown39 (wd17 hw) (wd18 hw) (wd2 hw) (wd19 hw) (by decide) e56 (Con.back (W := 2) (rm_draw l Z a0 hw zC vF G ((((x2.toUInt64 >>> ((20 : Int32) &&& 0x3f).toInt64.toUInt64).toInt64) &&& (1023 : Int64)).toInt32) yc_22 yc_23 h56 f59 q22_0 q22_1 q23_0 q23_1) hZ39 (wd19 hw) (wd2 hw) (by decide) (by decide)) (by rw [hml]; rfl) (lenOf pd38 rfl) rfl (Nat.le_of_eq rfl) (hb Y at_154) (q := 157) rfl (by decide) (by decide) ?_
 intro v58 T58 L58 X58 Q58
 obtain ⟨yc_58, rfl, Nq58, e58, q58_0, q58_1⟩ := Q58
 have N58 := Fr.app N56 Nq58
 show Go _ _ _ _ (T58.setTop (mkF m 157 _ [(.int yc_58), (iv 2), (.ref b46)]))
 have f61 := f57.trans (CHr.wr W56 (Safe.arv hZ39.alike Va50 (by decide)) f57.1)
 refine g_stC X58 hx hZ39 Va56 (i := 2) (by decide) (by decide) (by decide) (Nat.le_of_ble_eq_true rfl) (y := yc_58) (nar_of255 q58_0 q58_1) e58 (hb Y at_157) (q := 158) rfl ?_
 intro T60 h60 X60 e60 W60 V60
 have N60 := Fr.snoc X60 N58 gz51
 have Va60 : Arv Z h60 b46 k46 .char (5 : Int32) [(.int yc_47), (.int yc_54), (.int yc_58), (iv 0), (iv 0)] (.int 0) := V60
 refine aLw X60 hx (hb Y at_158) (q := 160) rfl rfl rfl ?_
 refine cI X60 hx (hb Y at_160) (q := 161) rfl (z := 3) rfl ?_
 refine lL X60 hx (hb Y at_161) (q := 162) rfl rfl ?_
 refine bI X60 hx (hb Y at_162) (q := 164) rfl (z := 30) rfl ?_
 refine g_lushr X60 hx (hb Y at_164) (q := 165) rfl rfl ?_
 refine g_ldcJ X60 hx (a1 := #[]) hZ39 hown39 (wd16 hw) (hb Y at_165) (q := 168) rfl ?_
 refine g_land X60 hx (hb Y at_168) (q := 169) rfl rfl ?_
 refine g_l2i X60 hx (hb Y at_169) (q := 170) rfl rfl ?_
 refine iLw X60 hx (hb Y at_170) (q := 172) rfl rfl ?_
 refine iLw X60 hx (hb Y at_172) (q := 174) rfl rfl ?_
 have f63 := f59.wr W60 gz51
 refine g_st X60 hx hZ39 hown39 (wd17 hw) (wd18 hw) (wd2 hw) (wd19 hw) (by decide) e60 (Con.back (W := 2) (rm_draw l Z a0 hw zC vF G ((((x2.toUInt64 >>> ((30 : Int32) &&& 0x3f).toInt64.toUInt64).toInt64) &&& (1023 : Int64)).toInt32) yc_22 yc_23 h60 f63 q22_0 q22_1 q23_0 q23_1) hZ39 (wd19 hw) (wd2 hw) (by decide) (by decide)) (by rw [hml]; rfl) (lenOf pd38 rfl) rfl (Nat.le_of_eq rfl) (hb Y at_174) (q := 177) rfl (by decide) (by decide) ?_
 intro v62 T62 L62 X62 Q62
 obtain ⟨yc_62, rfl, Nq62, e62, q62_0, q62_1⟩ := Q62
 have N62 := Fr.app N60 Nq62
 show Go _ _ _ _ (T62.setTop (mkF m 177 _ [(.int yc_62), (iv 3), (.ref b46)]))
 have f65 := f61.trans (CHr.wr W60 (Safe.arv hZ39.alike Va56 (by decide)) f61.1)
 refine g_stC X62 hx hZ39 Va60 (i := 3) (by decide) (by decide) (by decide) (Nat.le_of_ble_eq_true rfl) (y := yc_62) (nar_of255 q62_0 q62_1) e62 (hb Y at_177) (q := 178) rfl ?_
 intro T64 h64 X64 e64 W64 V64
 have N64 := Fr.snoc X64 N62 gz51
 have Va64 : Arv Z h64 b46 k46 .char (5 : Int32) [(.int yc_47), (.int yc_54), (.int yc_58), (.int yc_62), (iv 0)] (.int 0) := V64
 refine aLw X64 hx (hb Y at_178) (q := 180) rfl rfl rfl ?_
 refine cI X64 hx (hb Y at_180) (q := 181) rfl (z := 4) rfl ?_
 refine lL X64 hx (hb Y at_181) (q := 182) rfl rfl ?_
 refine bI X64 hx (hb Y at_182) (q := 184) rfl (z := 40) rfl ?_
 refine g_lushr X64 hx (hb Y at_184) (q := 185) rfl rfl ?_
 refine g_ldcJ X64 hx (a1 := #[]) hZ39 hown39 (wd16 hw) (hb Y at_185) (q := 188) rfl ?_
 refine g_land X64 hx (hb Y at_188) (q := 189) rfl rfl ?_
 refine g_l2i X64 hx (hb Y at_189) (q := 190) rfl rfl ?_
 refine iLw X64 hx (hb Y at_190) (q := 192) rfl rfl ?_
 refine iLw X64 hx (hb Y at_192) (q := 194) rfl rfl ?_
 have f67 := f63.wr W64 gz51
 refine g_st X64 hx hZ39 hown39 (wd17 hw) (wd18 hw) (wd2 hw) (wd19 hw) (by decide) e64 (Con.back (W := 2) (rm_draw l Z a0 hw zC vF G ((((x2.toUInt64 >>> ((40 : Int32) &&& 0x3f).toInt64.toUInt64).toInt64) &&& (1023 : Int64)).toInt32) yc_22 yc_23 h64 f67 q22_0 q22_1 q23_0 q23_1) hZ39 (wd19 hw) (wd2 hw) (by decide) (by decide)) (by rw [hml]; rfl) (lenOf pd38 rfl) rfl (Nat.le_of_eq rfl) (hb Y at_194) (q := 197) rfl (by decide) (by decide) ?_
 intro v66 T66 L66 X66 Q66
 obtain ⟨yc_66, rfl, Nq66, e66, q66_0, q66_1⟩ := Q66
 have N66 := Fr.app N64 Nq66
 show Go _ _ _ _ (T66.setTop (mkF m 197 _ [(.int yc_66), (iv 4), (.ref b46)]))
 have f69 := f65.trans (CHr.wr W64 (Safe.arv hZ39.alike Va60 (by decide)) f65.1)
 refine g_stC X66 hx hZ39 Va64 (i := 4) (by decide) (by decide) (by decide) (Nat.le_of_ble_eq_true rfl) (y := yc_66) (nar_of255 q66_0 q66_1) e66 (hb Y at_197) (q := 198) rfl ?_
 intro T68 h68 X68 e68 W68 V68
 have N68 := Fr.snoc X68 N66 gz51
 have Va68 : Arv Z h68 b46 k46 .char (5 : Int32) [(.int yc_47), (.int yc_54), (.int yc_58), (.int yc_62), (.int yc_66)] (.int 0) := V68
 refine iLw X68 hx (hb Y at_198) (q := 200) rfl rfl ?_
 refine g_ldcI X68 hx (a1 := #[]) hZ39 hown39 (wd20 hw) (hb Y at_200) (q := 202) rfl ?_
 refine g_iand X68 hx (hb Y at_202) (q := 203) rfl rfl ?_
 refine bI X68 hx (hb Y at_203) (q := 205) rfl (z := 6) rfl ?_
 refine g_irem X68 hx (hb Y at_205) (q := 206) rfl (by decide) rfl ?_
 obtain ⟨el, eel, hel⟩ := own_el x3
 rw [eel]
 refine sIw X68 hx (hb Y at_206) (q := 208) rfl (Ls' := #[vi x0, vi x1, .val (.long x2), .second, vi x3, vi kd, vi (Int32.ofNat sh), vi yc_22, vi yc_23, vr b24, vi (Int32.ofNat pl), vi (Int32.ofNat ql), vr r_39, vr b46, vi (Int32.ofNat el), uS, uS, uS, uS, uS, uS, uS]) rfl ?_
 have hA : ALL ([yc_47, yc_54, yc_58, yc_62, yc_66] : List Int32) := (alS ⟨q47_0, q47_1⟩ (alS ⟨q54_0, q54_1⟩ (alS ⟨q58_0, q58_1⟩ (alS ⟨q62_0, q62_1⟩ (alS ⟨q66_0, q66_1⟩ al0)))))
 refine aLw X68 hx (hb Y at_208) (q := 210) rfl rfl rfl ?_
 refine iLw X68 hx (hb Y at_210) (q := 212) rfl rfl ?_
 have f71 := f67.wr W68 gz51
 have f72 := f69.trans (CHr.wr W68 (Safe.arv hZ39.alike Va64 (by decide)) f69.1)
 have le73 := E46.1
 have le74 := (Nat.le_trans le73 (Nat.le_of_eq (Wr.size W50).symm))
 have le75 := (Nat.le_trans le74 (Nat.le_of_eq (Wr.size W56).symm))
 have le76 := (Nat.le_trans le75 (Nat.le_of_eq (Wr.size W60).symm))
 have le77 := (Nat.le_trans le76 (Nat.le_of_eq (Wr.size W64).symm))
 have le78 := (Nat.le_trans le77 (Nat.le_of_eq (Wr.size W68).symm))
 refine g_stS X68 hx hZ39 hown39 hS39 (Nat.le_trans (Nat.le_refl _) le78) (wd21 hw) (wd22 hw) (wd2 hw) (wd23 hw) (by decide) e68 (ConS.back (W := 0) (rm_text l Z a0 hw zC vF G b46 k46 yc_47 yc_54 yc_58 yc_62 yc_66 el h68 f71 Va68 q47_0 q47_1 q54_0 q54_1 q58_0 q58_1 q62_0 q62_1 q66_0 q66_1 hel) hZ39 (wd23 hw) (wd2 hw) (by decide) (by decide) (own_EW hw) f72.1 sf0 all0) (by rw [hml]; rfl) (lenOf pd39 rfl) rfl (Nat.le_of_eq rfl) (hb Y at_212) (q := 215) rfl (by decide) (by decide) ?_
 rintro v70 T70 L70 ⟨X70, hS70, hZ70, hown70, R70⟩ Q70
 obtain ⟨r_70, ct_70, kc_70, rfl, Nq70, K70q, q70_0, q70_1, q70_2, q70_3⟩ := Q70
 have N70 := Fr.app N68 Nq70
 show Go _ _ _ _ (T70.setTop (mkF m 215 _ [(.ref r_70)]))
 refine sAw X70 hx (hb Y at_215) (q := 217) rfl rfl (Ls' := #[vi x0, vi x1, .val (.long x2), .second, vi x3, vi kd, vi (Int32.ofNat sh), vi yc_22, vi yc_23, vr b24, vi (Int32.ofNat pl), vi (Int32.ofNat ql), vr r_39, vr b46, vi (Int32.ofNat el), vr r_70, uS, uS, uS, uS, uS, uS]) rfl ?_
 refine g_new X70 hx hZ70 hown70 (wd25 hw) (wd26 hw) (wd27 hw) (by decide) (by decide) rfl (hb Y at_217) (q := 220) rfl ?_
 intro T79 h79 b79 g79 X79 e79 E79 A79 D79
 have sf80 : Safe Z EL T70.vm T70.heap b79 := Safe.new (Nat.le_of_eq g79.symm)
 have F79_73 := D79 (Or.inr (wd73 hw)) (ty := (.object sT0)) (by decide)
 refine g_dup X79 hx (hb Y at_220) (q := 221) rfl rfl ?_
 refine aLw X79 hx (hb Y at_221) (q := 223) rfl rfl rfl ?_
 have f99 := f71.keep K70q all0
 have gz98 : Z.heap.size ≤ b79 := Nat.le_trans f99.2.1 (Nat.le_of_eq g79.symm)
 have f100 := f72.trans R70
 have f101 := Safe.ext E79 f100.1 sf80
 have K102 := (Keep.refl T39.heap []).ext E46
 have K103 := K102.wr W50 (Or.inr (Nat.le_trans (Nat.le_refl _) (Nat.le_of_eq g46.symm)))
 have K104 := K103.wr W56 (Or.inr (Nat.le_trans (Nat.le_refl _) (Nat.le_of_eq g46.symm)))
 have K105 := K104.wr W60 (Or.inr (Nat.le_trans (Nat.le_refl _) (Nat.le_of_eq g46.symm)))
 have K106 := K105.wr W64 (Or.inr (Nat.le_trans (Nat.le_refl _) (Nat.le_of_eq g46.symm)))
 have K107 := K106.wr W68 (Or.inr (Nat.le_trans (Nat.le_refl _) (Nat.le_of_eq g46.symm)))
 have K108 := K107.trans K70q all0
 have K109 := K108.ext E79
 have f110 := q39_0.keep K109
 have f111 := q39_1.keep K109 nin0
 have f112 := q39_2.keep K109 nin0
 have f113 := q39_3.keep K109 nin0
 have f114 := f99.ext E79
 have f115 := f100.trans (CHr.ext E79 f100.1)
 have le116 := E79.1
 refine g_spS X79 hx hZ70 hown70 hS70 (Nat.le_trans (Nat.le_refl _) le116) (wd28 hw) (wd29 hw) (wd30 hw) rfl (by decide) e79 (ConS.back (W := 1) (rm_epinit l Z a0 hw zC vF G b79 r_39 ct_39 kc_39 ps_39 sn_39 h79 f114 A79 F79_73 gz98 f110 f111 f112 f113 q39_4 q39_5 q39_6 (spl_ok q39_7 q39_4 q22_2 q22_3 q22_4 q23_2 q23_3 q23_4 pl1 pl4 hq3)) hZ70 (wd30 hw) (wd27 hw) (by decide) (by decide) (own_EW hw) f115.1 (sfS f101 sf0) (allS (Nat.lt_of_lt_of_le A79.lt (Nat.le_refl _)) all0)) (by rw [hml]; rfl) (lenOf pd40 rfl) rfl (Nat.le_of_eq rfl) (hb Y at_223) (q := 226) rfl (by decide) (by decide) ?_
 rintro v97 T97 L97 ⟨X97, hS97, hZ97, hown97, R97⟩ Q97
 obtain ⟨rfl, Nq97, K97q, q97_0, q97_1⟩ := Q97
 have N97 := Fr.app N70 Nq97
 show Go _ _ _ _ (T97.setTop (mkF m 226 _ [(.ref b79)]))
 refine sAw X97 hx (hb Y at_226) (q := 228) rfl rfl (Ls' := #[vi x0, vi x1, .val (.long x2), .second, vi x3, vi kd, vi (Int32.ofNat sh), vi yc_22, vi yc_23, vr b24, vi (Int32.ofNat pl), vi (Int32.ofNat ql), vr r_39, vr b46, vi (Int32.ofNat el), vr r_70, vr b79, uS, uS, uS, uS, uS]) rfl ?_
 refine aLw X97 hx (hb Y at_228) (q := 230) rfl rfl rfl ?_
 refine aLw X97 hx (hb Y at_230) (q := 232) rfl rfl rfl ?_
 have f135 := f110.keep K97q
 have le136 := (Nat.le_trans le78 K70q.1)
 have ne137 : r_39 ≠ b79 := (Nat.ne_of_lt (Nat.lt_of_lt_of_le (Nat.lt_of_lt_of_le q39_0.lt le136) (Nat.le_of_eq g79.symm)))
 have f138 := f111.keep K97q (ninS ne137 nin0)
 have f139 := f112.keep K97q (ninS ne137 nin0)
 have ne140 : ct_39 ≠ b79 := (Nat.ne_of_lt (Nat.lt_of_lt_of_le (Nat.lt_of_lt_of_le q39_3.lt le136) (Nat.le_of_eq g79.symm)))
 have f141 := f113.keep K97q (ninS ne140 nin0)
 have f142 := q70_0.ext E79
 have f143 := f142.keep K97q
 have f144 := q70_1.ext E79
 have ne145 : r_70 ≠ b79 := (Nat.ne_of_lt (Nat.lt_of_lt_of_le (Nat.lt_of_lt_of_le q70_0.lt (Nat.le_refl _)) (Nat.le_of_eq g79.symm)))
 have f146 := f144.keep K97q (ninS ne145 nin0)
 have f147 := q70_2.ext E79
 have f148 := f147.keep K97q (ninS ne145 nin0)
 have f149 := q70_3.ext E79
 have ne150 : ct_70 ≠ b79 := (Nat.ne_of_lt (Nat.lt_of_lt_of_le (Nat.lt_of_lt_of_le q70_3.lt (Nat.le_refl _)) (Nat.le_of_eq g79.symm)))
 have f151 := f149.keep K97q (ninS ne150 nin0)
 have f152 := f114.keep K97q (allS gz98 all0)
 have f153 := f115.trans R97
 refine g_viS X97 hx hZ97 hown97 hS97 (Nat.le_trans (Nat.le_refl _) (Nat.le_refl _)) (wd74 hw) (wd75 hw) (notFace_of_selects (args := #[]) (mvT hZ97 (wd77 hw))) (wd77 hw) (wd76 hw) (by decide) q97_0 rfl (ConS.back (W := 0) (rm_mat l Z a0 hw zC vF G b79 r_39 ct_39 kc_39 ps_39 sn_39 r_70 ct_70 kc_70 (List.take el ([yc_47, yc_54, yc_58, yc_62, yc_66] : List Int32)) el T97.heap f152 q97_0 q97_1 f135 f138 f139 f141 q39_4 q39_5 q39_6 f143 f146 f148 f151 (tk_len rfl hel) (show el ≤ 6 from by omega) (tk_all hA)) hZ97 (wd78 hw) (wd27 hw) (by decide) (by decide) (own_EW hw) f153.1 sf0 all0) (by rw [hml]; rfl) (lenOf pd31 rfl) rfl (Nat.le_of_eq rfl) (hb Y at_232) (q := 235) rfl (by decide) (by decide) ?_
 rintro v134 T134 L134 ⟨X134, hS134, hZ134, hown134, R134⟩ Q134
 obtain ⟨bb_134, ls_134, nl_134, rfl, Nq134, K134q, q134_0, q134_1, q134_2, q134_3⟩ := Q134
 have N134 := Fr.app N97 Nq134
 show Go _ _ _ _ (T134.setTop (mkF m 235 _ [(.int bb_134)]))
 refine sIw X134 hx (hb Y at_235) (q := 237) rfl (Ls' := #[vi x0, vi x1, .val (.long x2), .second, vi x3, vi kd, vi (Int32.ofNat sh), vi yc_22, vi yc_23, vr b24, vi (Int32.ofNat pl), vi (Int32.ofNat ql), vr r_39, vr b46, vi (Int32.ofNat el), vr r_70, vr b79, vi bb_134, uS, uS, uS, uS]) rfl ?_
 refine iLw X134 hx (hb Y at_237) (q := 239) rfl rfl ?_
 refine sIw X134 hx (hb Y at_239) (q := 241) rfl (Ls' := #[vi x0, vi x1, .val (.long x2), .second, vi x3, vi kd, vi (Int32.ofNat sh), vi yc_22, vi yc_23, vr b24, vi (Int32.ofNat pl), vi (Int32.ofNat ql), vr r_39, vr b46, vi (Int32.ofNat el), vr r_70, vr b79, vi bb_134, vi (Int32.ofNat el), uS, uS, uS]) rfl ?_
 have hcu5 : CUP ([yc_47, yc_54, yc_58, yc_62, yc_66] : List Int32) el 5 el := ⟨Nat.le_refl _, Or.inl rfl, fun j h1 h2 => absurd h1 (by omega)⟩
 suffices kk154 : ∀ c4_ : Nat, CUP ([yc_47, yc_54, yc_58, yc_62, yc_66] : List Int32) el 4 c4_ → Go p.tables e below (SEnd Z EL s (Q_law Z zC vF x0 x1 x2 x3 h0) room_1.cells room_1.slots) (T134.setTop (mkF m 259 #[vi x0, vi x1, .val (.long x2), .second, vi x3, vi kd, vi (Int32.ofNat sh), vi yc_22, vi yc_23, vr b24, vi (Int32.ofNat pl), vi (Int32.ofNat ql), vr r_39, vr b46, vi (Int32.ofNat el), vr r_70, vr b79, vi bb_134, vi (Int32.ofNat c4_), uS, uS, uS] [])) by
  have f155 := f153.trans R134
  rcases Nat.lt_or_ge 4 el with hc156 | hc156
  ·have hcu5 : CUP ([yc_47, yc_54, yc_58, yc_62, yc_66] : List Int32) el 5 el := ⟨Nat.le_refl _, Or.inl rfl, fun j h1 h2 => absurd h1 (by omega)⟩
   refine iLw X134 hx (hb Y at_241) (q := 243) rfl rfl ?_
   refine cI X134 hx (hb Y at_243) (q := 244) rfl (z := 4) rfl ?_
   refine icN X134 hx (hb Y at_244) (q := 247) rfl (tlt (on_lt (i := 4) (n := el) hc156 (show el < 2147483648 from by omega))).2.2.2 ?_
   refine aLw X134 hx (hb Y at_247) (q := 249) rfl rfl rfl ?_
   refine cI X134 hx (hb Y at_249) (q := 250) rfl (z := 4) rfl ?_
   have f157 := Va68.keep K70q nin0
   have f158 := f157.ext E79
   have le159 := (Nat.le_of_eq (Wr.size W50).symm)
   have le160 := (Nat.le_trans le159 (Nat.le_of_eq (Wr.size W56).symm))
   have le161 := (Nat.le_trans le160 (Nat.le_of_eq (Wr.size W60).symm))
   have le162 := (Nat.le_trans le161 (Nat.le_of_eq (Wr.size W64).symm))
   have le163 := (Nat.le_trans le162 (Nat.le_of_eq (Wr.size W68).symm))
   have le164 := (Nat.le_trans le163 K70q.1)
   have ne165 : b46 ≠ b79 := (Nat.ne_of_lt (Nat.lt_of_lt_of_le (Nat.lt_of_lt_of_le Va46.lt le164) (Nat.le_of_eq g79.symm)))
   have f166 := f158.keep K97q (ninS ne165 nin0)
   have f167 := f166.keep K134q nin0
   refine g_ldC X134 hx hZ134 f167 (i := 4) (by decide) (by decide) (by decide) (v := (.int yc_66)) rfl rfl (hb Y at_250) (q := 251) rfl ?_
   refine bI X134 hx (hb Y at_251) (q := 253) rfl (z := 63) rfl ?_
   by_cases hc168 : yc_66 = (63 : Int32)
   ·refine icN X134 hx (hb Y at_253) (q := 256) rfl (teq hc168).2 ?_
    refine cI X134 hx (hb Y at_256) (q := 257) rfl (z := 4) rfl ?_
    refine sIw X134 hx (hb Y at_257) (q := 259) rfl (Ls' := #[vi x0, vi x1, .val (.long x2), .second, vi x3, vi kd, vi (Int32.ofNat sh), vi yc_22, vi yc_23, vr b24, vi (Int32.ofNat pl), vi (Int32.ofNat ql), vr r_39, vr b46, vi (Int32.ofNat el), vr r_70, vr b79, vi bb_134, vi 4, uS, uS, uS]) rfl ?_
    exact kk154 4 (cup_b hc156 hc168)
   ·refine icY X134 hx (hb Y at_253) (q := 259) (by decide) (by decide) (feq hc168).2 ?_
    exact kk154 el (cup_a hcu5 (Or.inr hc168))
  ·have hcu5 : CUP ([yc_47, yc_54, yc_58, yc_62, yc_66] : List Int32) el 5 el := ⟨Nat.le_refl _, Or.inl rfl, fun j h1 h2 => absurd h1 (by omega)⟩
   refine iLw X134 hx (hb Y at_241) (q := 243) rfl rfl ?_
   refine cI X134 hx (hb Y at_243) (q := 244) rfl (z := 4) rfl ?_
   refine icY X134 hx (hb Y at_244) (q := 259) (by decide) (by decide) (flt (on_le (a := el) (b := 4) hc156 (show 4 < 2147483648 from by omega))).2.2.2 ?_
   exact kk154 el (cup_a hcu5 (Or.inl hc156))
 intro c4_ h154
 suffices kk172 : ∀ c3_ : Nat, CUP ([yc_47, yc_54, yc_58, yc_62, yc_66] : List Int32) el 3 c3_ → Go p.tables e below (SEnd Z EL s (Q_law Z zC vF x0 x1 x2 x3 h0) room_1.cells room_1.slots) (T134.setTop (mkF m 277 #[vi x0, vi x1, .val (.long x2), .second, vi x3, vi kd, vi (Int32.ofNat sh), vi yc_22, vi yc_23, vr b24, vi (Int32.ofNat pl), vi (Int32.ofNat ql), vr r_39, vr b46, vi (Int32.ofNat el), vr r_70, vr b79, vi bb_134, vi (Int32.ofNat c3_), uS, uS, uS] [])) by
  have f173 := f153.trans R134
  rcases Nat.lt_or_ge 3 el with hc174 | hc174
  ·refine iLw X134 hx (hb Y at_259) (q := 261) rfl rfl ?_
   refine cI X134 hx (hb Y at_261) (q := 262) rfl (z := 3) rfl ?_
   refine icN X134 hx (hb Y at_262) (q := 265) rfl (tlt (on_lt (i := 3) (n := el) hc174 (show el < 2147483648 from by omega))).2.2.2 ?_
   refine aLw X134 hx (hb Y at_265) (q := 267) rfl rfl rfl ?_
   refine cI X134 hx (hb Y at_267) (q := 268) rfl (z := 3) rfl ?_
   have f175 := Va68.keep K70q nin0
   have f176 := f175.ext E79
   have le177 := (Nat.le_of_eq (Wr.size W50).symm)
   have le178 := (Nat.le_trans le177 (Nat.le_of_eq (Wr.size W56).symm))
   have le179 := (Nat.le_trans le178 (Nat.le_of_eq (Wr.size W60).symm))
   have le180 := (Nat.le_trans le179 (Nat.le_of_eq (Wr.size W64).symm))
   have le181 := (Nat.le_trans le180 (Nat.le_of_eq (Wr.size W68).symm))
   have le182 := (Nat.le_trans le181 K70q.1)
   have ne183 : b46 ≠ b79 := (Nat.ne_of_lt (Nat.lt_of_lt_of_le (Nat.lt_of_lt_of_le Va46.lt le182) (Nat.le_of_eq g79.symm)))
   have f184 := f176.keep K97q (ninS ne183 nin0)
   have f185 := f184.keep K134q nin0
   refine g_ldC X134 hx hZ134 f185 (i := 3) (by decide) (by decide) (by decide) (v := (.int yc_62)) rfl rfl (hb Y at_268) (q := 269) rfl ?_
   refine bI X134 hx (hb Y at_269) (q := 271) rfl (z := 63) rfl ?_
   by_cases hc186 : yc_62 = (63 : Int32)
   ·refine icN X134 hx (hb Y at_271) (q := 274) rfl (teq hc186).2 ?_
    refine cI X134 hx (hb Y at_274) (q := 275) rfl (z := 3) rfl ?_
    refine sIw X134 hx (hb Y at_275) (q := 277) rfl (Ls' := #[vi x0, vi x1, .val (.long x2), .second, vi x3, vi kd, vi (Int32.ofNat sh), vi yc_22, vi yc_23, vr b24, vi (Int32.ofNat pl), vi (Int32.ofNat ql), vr r_39, vr b46, vi (Int32.ofNat el), vr r_70, vr b79, vi bb_134, vi 3, uS, uS, uS]) rfl ?_
    exact kk172 3 (cup_b hc174 hc186)
   ·refine icY X134 hx (hb Y at_271) (q := 277) (by decide) (by decide) (feq hc186).2 ?_
    exact kk172 c4_ (cup_a h154 (Or.inr hc186))
  ·refine iLw X134 hx (hb Y at_259) (q := 261) rfl rfl ?_
   refine cI X134 hx (hb Y at_261) (q := 262) rfl (z := 3) rfl ?_
   refine icY X134 hx (hb Y at_262) (q := 277) (by decide) (by decide) (flt (on_le (a := el) (b := 3) hc174 (show 3 < 2147483648 from by omega))).2.2.2 ?_
   exact kk172 c4_ (cup_a h154 (Or.inl hc174))
 intro c3_ h172
 suffices kk190 : ∀ c2_ : Nat, CUP ([yc_47, yc_54, yc_58, yc_62, yc_66] : List Int32) el 2 c2_ → Go p.tables e below (SEnd Z EL s (Q_law Z zC vF x0 x1 x2 x3 h0) room_1.cells room_1.slots) (T134.setTop (mkF m 295 #[vi x0, vi x1, .val (.long x2), .second, vi x3, vi kd, vi (Int32.ofNat sh), vi yc_22, vi yc_23, vr b24, vi (Int32.ofNat pl), vi (Int32.ofNat ql), vr r_39, vr b46, vi (Int32.ofNat el), vr r_70, vr b79, vi bb_134, vi (Int32.ofNat c2_), uS, uS, uS] [])) by
  have f191 := f153.trans R134
  rcases Nat.lt_or_ge 2 el with hc192 | hc192
  ·refine iLw X134 hx (hb Y at_277) (q := 279) rfl rfl ?_
   refine cI X134 hx (hb Y at_279) (q := 280) rfl (z := 2) rfl ?_
   refine icN X134 hx (hb Y at_280) (q := 283) rfl (tlt (on_lt (i := 2) (n := el) hc192 (show el < 2147483648 from by omega))).2.2.2 ?_
   refine aLw X134 hx (hb Y at_283) (q := 285) rfl rfl rfl ?_
   refine cI X134 hx (hb Y at_285) (q := 286) rfl (z := 2) rfl ?_
   have f193 := Va68.keep K70q nin0
   have f194 := f193.ext E79
   have le195 := (Nat.le_of_eq (Wr.size W50).symm)
   have le196 := (Nat.le_trans le195 (Nat.le_of_eq (Wr.size W56).symm))
   have le197 := (Nat.le_trans le196 (Nat.le_of_eq (Wr.size W60).symm))
   have le198 := (Nat.le_trans le197 (Nat.le_of_eq (Wr.size W64).symm))
   have le199 := (Nat.le_trans le198 (Nat.le_of_eq (Wr.size W68).symm))
   have le200 := (Nat.le_trans le199 K70q.1)
   have ne201 : b46 ≠ b79 := (Nat.ne_of_lt (Nat.lt_of_lt_of_le (Nat.lt_of_lt_of_le Va46.lt le200) (Nat.le_of_eq g79.symm)))
   have f202 := f194.keep K97q (ninS ne201 nin0)
   have f203 := f202.keep K134q nin0
   refine g_ldC X134 hx hZ134 f203 (i := 2) (by decide) (by decide) (by decide) (v := (.int yc_58)) rfl rfl (hb Y at_286) (q := 287) rfl ?_
   refine bI X134 hx (hb Y at_287) (q := 289) rfl (z := 63) rfl ?_
   by_cases hc204 : yc_58 = (63 : Int32)
   ·refine icN X134 hx (hb Y at_289) (q := 292) rfl (teq hc204).2 ?_
    refine cI X134 hx (hb Y at_292) (q := 293) rfl (z := 2) rfl ?_
    refine sIw X134 hx (hb Y at_293) (q := 295) rfl (Ls' := #[vi x0, vi x1, .val (.long x2), .second, vi x3, vi kd, vi (Int32.ofNat sh), vi yc_22, vi yc_23, vr b24, vi (Int32.ofNat pl), vi (Int32.ofNat ql), vr r_39, vr b46, vi (Int32.ofNat el), vr r_70, vr b79, vi bb_134, vi 2, uS, uS, uS]) rfl ?_
    exact kk190 2 (cup_b hc192 hc204)
   ·refine icY X134 hx (hb Y at_289) (q := 295) (by decide) (by decide) (feq hc204).2 ?_
    exact kk190 c3_ (cup_a h172 (Or.inr hc204))
  ·refine iLw X134 hx (hb Y at_277) (q := 279) rfl rfl ?_
   refine cI X134 hx (hb Y at_279) (q := 280) rfl (z := 2) rfl ?_
   refine icY X134 hx (hb Y at_280) (q := 295) (by decide) (by decide) (flt (on_le (a := el) (b := 2) hc192 (show 2 < 2147483648 from by omega))).2.2.2 ?_
   exact kk190 c3_ (cup_a h172 (Or.inl hc192))
 intro c2_ h190
 suffices kk208 : ∀ c1_ : Nat, CUP ([yc_47, yc_54, yc_58, yc_62, yc_66] : List Int32) el 1 c1_ → Go p.tables e below (SEnd Z EL s (Q_law Z zC vF x0 x1 x2 x3 h0) room_1.cells room_1.slots) (T134.setTop (mkF m 313 #[vi x0, vi x1, .val (.long x2), .second, vi x3, vi kd, vi (Int32.ofNat sh), vi yc_22, vi yc_23, vr b24, vi (Int32.ofNat pl), vi (Int32.ofNat ql), vr r_39, vr b46, vi (Int32.ofNat el), vr r_70, vr b79, vi bb_134, vi (Int32.ofNat c1_), uS, uS, uS] [])) by
  have f209 := f153.trans R134
  rcases Nat.lt_or_ge 1 el with hc210 | hc210
  ·refine iLw X134 hx (hb Y at_295) (q := 297) rfl rfl ?_
   refine cI X134 hx (hb Y at_297) (q := 298) rfl (z := 1) rfl ?_
   refine icN X134 hx (hb Y at_298) (q := 301) rfl (tlt (on_lt (i := 1) (n := el) hc210 (show el < 2147483648 from by omega))).2.2.2 ?_
   refine aLw X134 hx (hb Y at_301) (q := 303) rfl rfl rfl ?_
   refine cI X134 hx (hb Y at_303) (q := 304) rfl (z := 1) rfl ?_
   have f211 := Va68.keep K70q nin0
   have f212 := f211.ext E79
   have le213 := (Nat.le_of_eq (Wr.size W50).symm)
   have le214 := (Nat.le_trans le213 (Nat.le_of_eq (Wr.size W56).symm))
   have le215 := (Nat.le_trans le214 (Nat.le_of_eq (Wr.size W60).symm))
   have le216 := (Nat.le_trans le215 (Nat.le_of_eq (Wr.size W64).symm))
   have le217 := (Nat.le_trans le216 (Nat.le_of_eq (Wr.size W68).symm))
   have le218 := (Nat.le_trans le217 K70q.1)
   have ne219 : b46 ≠ b79 := (Nat.ne_of_lt (Nat.lt_of_lt_of_le (Nat.lt_of_lt_of_le Va46.lt le218) (Nat.le_of_eq g79.symm)))
   have f220 := f212.keep K97q (ninS ne219 nin0)
   have f221 := f220.keep K134q nin0
   refine g_ldC X134 hx hZ134 f221 (i := 1) (by decide) (by decide) (by decide) (v := (.int yc_54)) rfl rfl (hb Y at_304) (q := 305) rfl ?_
   refine bI X134 hx (hb Y at_305) (q := 307) rfl (z := 63) rfl ?_
   by_cases hc222 : yc_54 = (63 : Int32)
   ·refine icN X134 hx (hb Y at_307) (q := 310) rfl (teq hc222).2 ?_
    refine cI X134 hx (hb Y at_310) (q := 311) rfl (z := 1) rfl ?_
    refine sIw X134 hx (hb Y at_311) (q := 313) rfl (Ls' := #[vi x0, vi x1, .val (.long x2), .second, vi x3, vi kd, vi (Int32.ofNat sh), vi yc_22, vi yc_23, vr b24, vi (Int32.ofNat pl), vi (Int32.ofNat ql), vr r_39, vr b46, vi (Int32.ofNat el), vr r_70, vr b79, vi bb_134, vi 1, uS, uS, uS]) rfl ?_
    exact kk208 1 (cup_b hc210 hc222)
   ·refine icY X134 hx (hb Y at_307) (q := 313) (by decide) (by decide) (feq hc222).2 ?_
    exact kk208 c2_ (cup_a h190 (Or.inr hc222))
  ·refine iLw X134 hx (hb Y at_295) (q := 297) rfl rfl ?_
   refine cI X134 hx (hb Y at_297) (q := 298) rfl (z := 1) rfl ?_
   refine icY X134 hx (hb Y at_298) (q := 313) (by decide) (by decide) (flt (on_le (a := el) (b := 1) hc210 (show 1 < 2147483648 from by omega))).2.2.2 ?_
   exact kk208 c2_ (cup_a h190 (Or.inl hc210))
 intro c1_ h208
 suffices kk226 : ∀ ct : Nat, CUP ([yc_47, yc_54, yc_58, yc_62, yc_66] : List Int32) el 0 ct → Go p.tables e below (SEnd Z EL s (Q_law Z zC vF x0 x1 x2 x3 h0) room_1.cells room_1.slots) (T134.setTop (mkF m 330 #[vi x0, vi x1, .val (.long x2), .second, vi x3, vi kd, vi (Int32.ofNat sh), vi yc_22, vi yc_23, vr b24, vi (Int32.ofNat pl), vi (Int32.ofNat ql), vr r_39, vr b46, vi (Int32.ofNat el), vr r_70, vr b79, vi bb_134, vi (Int32.ofNat ct), uS, uS, uS] [])) by
  have f227 := f153.trans R134
  rcases Nat.lt_or_ge 0 el with hc228 | hc228
  ·refine iLw X134 hx (hb Y at_313) (q := 315) rfl rfl ?_
   refine ifN X134 hx (hb Y at_315) (q := 318) rfl ((if0 _ _).trans (tlt (on_lt (i := 0) (n := el) hc228 (show el < 2147483648 from by omega))).2.2.2) ?_
   refine aLw X134 hx (hb Y at_318) (q := 320) rfl rfl rfl ?_
   refine cI X134 hx (hb Y at_320) (q := 321) rfl (z := 0) rfl ?_
   have f229 := Va68.keep K70q nin0
   have f230 := f229.ext E79
   have le231 := (Nat.le_of_eq (Wr.size W50).symm)
   have le232 := (Nat.le_trans le231 (Nat.le_of_eq (Wr.size W56).symm))
   have le233 := (Nat.le_trans le232 (Nat.le_of_eq (Wr.size W60).symm))
   have le234 := (Nat.le_trans le233 (Nat.le_of_eq (Wr.size W64).symm))
   have le235 := (Nat.le_trans le234 (Nat.le_of_eq (Wr.size W68).symm))
   have le236 := (Nat.le_trans le235 K70q.1)
   have ne237 : b46 ≠ b79 := (Nat.ne_of_lt (Nat.lt_of_lt_of_le (Nat.lt_of_lt_of_le Va46.lt le236) (Nat.le_of_eq g79.symm)))
   have f238 := f230.keep K97q (ninS ne237 nin0)
   have f239 := f238.keep K134q nin0
   refine g_ldC X134 hx hZ134 f239 (i := 0) (by decide) (by decide) (by decide) (v := (.int yc_47)) rfl rfl (hb Y at_321) (q := 322) rfl ?_
   refine bI X134 hx (hb Y at_322) (q := 324) rfl (z := 63) rfl ?_
   by_cases hc240 : yc_47 = (63 : Int32)
   ·refine icN X134 hx (hb Y at_324) (q := 327) rfl (teq hc240).2 ?_
    refine cI X134 hx (hb Y at_327) (q := 328) rfl (z := 0) rfl ?_
    refine sIw X134 hx (hb Y at_328) (q := 330) rfl (Ls' := #[vi x0, vi x1, .val (.long x2), .second, vi x3, vi kd, vi (Int32.ofNat sh), vi yc_22, vi yc_23, vr b24, vi (Int32.ofNat pl), vi (Int32.ofNat ql), vr r_39, vr b46, vi (Int32.ofNat el), vr r_70, vr b79, vi bb_134, vi 0, uS, uS, uS]) rfl ?_
    exact kk226 0 (cup_b hc228 hc240)
   ·refine icY X134 hx (hb Y at_324) (q := 330) (by decide) (by decide) (feq hc240).2 ?_
    exact kk226 c1_ (cup_a h208 (Or.inr hc240))
  ·refine iLw X134 hx (hb Y at_313) (q := 315) rfl rfl ?_
   refine ifY X134 hx (hb Y at_315) (q := 330) (by decide) (by decide) ((if0 _ _).trans (flt (on_le (a := el) (b := 0) hc228 (show 0 < 2147483648 from by omega))).2.2.2) ?_
   exact kk226 c1_ (cup_a h208 (Or.inl hc228))
 intro ct h226
 have hct : ct ≤ 5 := Nat.le_trans h226.1 hel
 refine cI X134 hx (hb Y at_330) (q := 331) rfl (z := 5) rfl ?_
 refine g_newA X134 hx hZ134 (aty := .char) (wd4 hw) (by decide) (n := 5) (by decide) (by decide) (by decide) (by decide) rfl (hb Y at_331) (q := 333) rfl ?_
 intro T244 h244 k244 b244 g244 X244 e244 E244 V244
 have Va244 : Arv Z h244 b244 k244 .char (5 : Int32) [(iv 0), (iv 0), (iv 0), (iv 0), (iv 0)] (.int 0) := V244
 refine sAw X244 hx (hb Y at_333) (q := 335) rfl rfl (Ls' := #[vi x0, vi x1, .val (.long x2), .second, vi x3, vi kd, vi (Int32.ofNat sh), vi yc_22, vi yc_23, vr b24, vi (Int32.ofNat pl), vi (Int32.ofNat ql), vr r_39, vr b46, vi (Int32.ofNat el), vr r_70, vr b79, vi bb_134, vi (Int32.ofNat ct), vr b244, uS, uS]) rfl ?_
 refine cI X244 hx (hb Y at_335) (q := 336) rfl (z := 0) rfl ?_
 refine sIw X244 hx (hb Y at_336) (q := 338) rfl (Ls' := #[vi x0, vi x1, .val (.long x2), .second, vi x3, vi kd, vi (Int32.ofNat sh), vi yc_22, vi yc_23, vr b24, vi (Int32.ofNat pl), vi (Int32.ofNat ql), vr r_39, vr b46, vi (Int32.ofNat el), vr r_70, vr b79, vi bb_134, vi (Int32.ofNat ct), vr b244, vi 0, uS]) rfl ?_
 refine aLw X244 hx (hb Y at_338) (q := 340) rfl rfl rfl ?_
 refine iLw X244 hx (hb Y at_340) (q := 342) rfl rfl ?_
 refine cI X244 hx (hb Y at_342) (q := 343) rfl (z := 0) rfl ?_
 refine aLw X244 hx (hb Y at_343) (q := 345) rfl rfl rfl ?_
 refine iLw X244 hx (hb Y at_345) (q := 347) rfl rfl ?_
 have K255 := (Keep.refl h68 []).trans K70q all0
 have K256 := K255.ext E79
 have le257 := K70q.1
 have K258 := K256.trans K97q (allS (Or.inr (Nat.le_trans le257 (Nat.le_of_eq g79.symm))) all0)
 have K259 := K258.trans K134q all0
 have K260 := K259.ext E244
 have f261 := Va68.keep K260 nin0
 have f263 := f152.keep K134q all0
 have gz262 : Z.heap.size ≤ b244 := Nat.le_trans f263.2.1 (Nat.le_of_eq g244.symm)
 have f264 := f263.ext E244
 refine g_st X244 hx hZ134 hown134 (wd134 hw) (wd135 hw) (wd2 hw) (wd136 hw) (by decide) e244 (Con.back (W := 0) (rm_put0 l Z a0 hw zC vF G b46 k46 yc_47 yc_54 yc_58 yc_62 yc_66 b244 k244 [(iv 0), (iv 0), (iv 0), (iv 0), (iv 0)] ct 0 h244 f264 f261 Va244 gz262 (npp_0 (es := ([yc_47, yc_54, yc_58, yc_62, yc_66] : List Int32)) (ct := ct)) hct q47_0 q47_1 q54_0 q54_1 q58_0 q58_1 q62_0 q62_1 q66_0 q66_1) hZ134 (wd136 hw) (wd2 hw) (by decide) (by decide)) (by rw [hml]; rfl) (lenOf pd41 rfl) rfl (Nat.le_of_eq rfl) (hb Y at_347) (q := 350) rfl (by decide) (by decide) ?_
 intro v254 T254 L254 X254 Q254
 obtain ⟨nl2_254, nv2_254, rfl, Nq254, K254q, q254_0, q254_1⟩ := Q254
 have N254 := Fr.app N134 Nq254
 show Go _ _ _ _ (T254.setTop (mkF m 350 _ [(.int (Int32.ofNat nl2_254))]))
 refine sIw X254 hx (hb Y at_350) (q := 352) rfl (Ls' := #[vi x0, vi x1, .val (.long x2), .second, vi x3, vi kd, vi (Int32.ofNat sh), vi yc_22, vi yc_23, vr b24, vi (Int32.ofNat pl), vi (Int32.ofNat ql), vr r_39, vr b46, vi (Int32.ofNat el), vr r_70, vr b79, vi bb_134, vi (Int32.ofNat ct), vr b244, vi (Int32.ofNat nl2_254), uS]) rfl ?_
 refine aLw X254 hx (hb Y at_352) (q := 354) rfl rfl rfl ?_
 refine iLw X254 hx (hb Y at_354) (q := 356) rfl rfl ?_
 refine cI X254 hx (hb Y at_356) (q := 357) rfl (z := 1) rfl ?_
 refine aLw X254 hx (hb Y at_357) (q := 359) rfl rfl rfl ?_
 refine iLw X254 hx (hb Y at_359) (q := 361) rfl rfl ?_
 have le277 := (Nat.le_of_eq (Wr.size W50).symm)
 have le278 := (Nat.le_trans le277 (Nat.le_of_eq (Wr.size W56).symm))
 have le279 := (Nat.le_trans le278 (Nat.le_of_eq (Wr.size W60).symm))
 have le280 := (Nat.le_trans le279 (Nat.le_of_eq (Wr.size W64).symm))
 have le281 := (Nat.le_trans le280 (Nat.le_of_eq (Wr.size W68).symm))
 have le282 := (Nat.le_trans le281 K70q.1)
 have le283 := (Nat.le_trans le282 E79.1)
 have le284 := (Nat.le_trans le283 K97q.1)
 have le285 := (Nat.le_trans le284 K134q.1)
 have ne286 : b46 ≠ b244 := (Nat.ne_of_lt (Nat.lt_of_lt_of_le (Nat.lt_of_lt_of_le Va46.lt le285) (Nat.le_of_eq g244.symm)))
 have f287 := f261.keep K254q (ninS ne286 nin0)
 have f288 := f264.keep K254q (allS gz262 all0)
 refine g_st X254 hx hZ134 hown134 (wd134 hw) (wd135 hw) (wd2 hw) (wd136 hw) (by decide) rfl (Con.back (W := 0) (rm_putn l Z a0 hw zC vF G b46 k46 yc_47 yc_54 yc_58 yc_62 yc_66 b244 k244 nv2_254 ct 1 nl2_254 T254.heap f288 f287 q254_0 gz262 q254_1 hct (show 1 ≤ 1 from by omega) (show 1 ≤ 4 from by omega) hA) hZ134 (wd136 hw) (wd2 hw) (by decide) (by decide)) (by rw [hml]; rfl) (lenOf pd41 rfl) rfl (Nat.le_of_eq rfl) (hb Y at_361) (q := 364) rfl (by decide) (by decide) ?_
 intro v276 T276 L276 X276 Q276
 obtain ⟨nl2_276, nv2_276, rfl, Nq276, K276q, q276_0, q276_1⟩ := Q276
 have N276 := Fr.app N254 Nq276
 show Go _ _ _ _ (T276.setTop (mkF m 364 _ [(.int (Int32.ofNat nl2_276))]))
 refine sIw X276 hx (hb Y at_364) (q := 366) rfl (Ls' := #[vi x0, vi x1, .val (.long x2), .second, vi x3, vi kd, vi (Int32.ofNat sh), vi yc_22, vi yc_23, vr b24, vi (Int32.ofNat pl), vi (Int32.ofNat ql), vr r_39, vr b46, vi (Int32.ofNat el), vr r_70, vr b79, vi bb_134, vi (Int32.ofNat ct), vr b244, vi (Int32.ofNat nl2_276), uS]) rfl ?_
 refine aLw X276 hx (hb Y at_366) (q := 368) rfl rfl rfl ?_
 refine iLw X276 hx (hb Y at_368) (q := 370) rfl rfl ?_
 refine cI X276 hx (hb Y at_370) (q := 371) rfl (z := 2) rfl ?_
 refine aLw X276 hx (hb Y at_371) (q := 373) rfl rfl rfl ?_
 refine iLw X276 hx (hb Y at_373) (q := 375) rfl rfl ?_
 have f291 := f287.keep K276q (ninS ne286 nin0)
 have f292 := f288.keep K276q (allS gz262 all0)
 refine g_st X276 hx hZ134 hown134 (wd134 hw) (wd135 hw) (wd2 hw) (wd136 hw) (by decide) rfl (Con.back (W := 0) (rm_putn l Z a0 hw zC vF G b46 k46 yc_47 yc_54 yc_58 yc_62 yc_66 b244 k244 nv2_276 ct 2 nl2_276 T276.heap f292 f291 q276_0 gz262 q276_1 hct (show 1 ≤ 2 from by omega) (show 2 ≤ 4 from by omega) hA) hZ134 (wd136 hw) (wd2 hw) (by decide) (by decide)) (by rw [hml]; rfl) (lenOf pd41 rfl) rfl (Nat.le_of_eq rfl) (hb Y at_375) (q := 378) rfl (by decide) (by decide) ?_
 intro v290 T290 L290 X290 Q290
 obtain ⟨nl2_290, nv2_290, rfl, Nq290, K290q, q290_0, q290_1⟩ := Q290
 have N290 := Fr.app N276 Nq290
 show Go _ _ _ _ (T290.setTop (mkF m 378 _ [(.int (Int32.ofNat nl2_290))]))
 refine sIw X290 hx (hb Y at_378) (q := 380) rfl (Ls' := #[vi x0, vi x1, .val (.long x2), .second, vi x3, vi kd, vi (Int32.ofNat sh), vi yc_22, vi yc_23, vr b24, vi (Int32.ofNat pl), vi (Int32.ofNat ql), vr r_39, vr b46, vi (Int32.ofNat el), vr r_70, vr b79, vi bb_134, vi (Int32.ofNat ct), vr b244, vi (Int32.ofNat nl2_290), uS]) rfl ?_
 refine aLw X290 hx (hb Y at_380) (q := 382) rfl rfl rfl ?_
 refine iLw X290 hx (hb Y at_382) (q := 384) rfl rfl ?_
 refine cI X290 hx (hb Y at_384) (q := 385) rfl (z := 3) rfl ?_
 refine aLw X290 hx (hb Y at_385) (q := 387) rfl rfl rfl ?_
 refine iLw X290 hx (hb Y at_387) (q := 389) rfl rfl ?_
 have f295 := f291.keep K290q (ninS ne286 nin0)
 have f296 := f292.keep K290q (allS gz262 all0)
 refine g_st X290 hx hZ134 hown134 (wd134 hw) (wd135 hw) (wd2 hw) (wd136 hw) (by decide) rfl (Con.back (W := 0) (rm_putn l Z a0 hw zC vF G b46 k46 yc_47 yc_54 yc_58 yc_62 yc_66 b244 k244 nv2_290 ct 3 nl2_290 T290.heap f296 f295 q290_0 gz262 q290_1 hct (show 1 ≤ 3 from by omega) (show 3 ≤ 4 from by omega) hA) hZ134 (wd136 hw) (wd2 hw) (by decide) (by decide)) (by rw [hml]; rfl) (lenOf pd41 rfl) rfl (Nat.le_of_eq rfl) (hb Y at_389) (q := 392) rfl (by decide) (by decide) ?_
 intro v294 T294 L294 X294 Q294
 obtain ⟨nl2_294, nv2_294, rfl, Nq294, K294q, q294_0, q294_1⟩ := Q294
 have N294 := Fr.app N290 Nq294
 show Go _ _ _ _ (T294.setTop (mkF m 392 _ [(.int (Int32.ofNat nl2_294))]))
 refine sIw X294 hx (hb Y at_392) (q := 394) rfl (Ls' := #[vi x0, vi x1, .val (.long x2), .second, vi x3, vi kd, vi (Int32.ofNat sh), vi yc_22, vi yc_23, vr b24, vi (Int32.ofNat pl), vi (Int32.ofNat ql), vr r_39, vr b46, vi (Int32.ofNat el), vr r_70, vr b79, vi bb_134, vi (Int32.ofNat ct), vr b244, vi (Int32.ofNat nl2_294), uS]) rfl ?_
 refine aLw X294 hx (hb Y at_394) (q := 396) rfl rfl rfl ?_
 refine iLw X294 hx (hb Y at_396) (q := 398) rfl rfl ?_
 refine cI X294 hx (hb Y at_398) (q := 399) rfl (z := 4) rfl ?_
 refine aLw X294 hx (hb Y at_399) (q := 401) rfl rfl rfl ?_
 refine iLw X294 hx (hb Y at_401) (q := 403) rfl rfl ?_
 have f299 := f295.keep K294q (ninS ne286 nin0)
 have f300 := f296.keep K294q (allS gz262 all0)
 refine g_st X294 hx hZ134 hown134 (wd134 hw) (wd135 hw) (wd2 hw) (wd136 hw) (by decide) rfl (Con.back (W := 0) (rm_putn l Z a0 hw zC vF G b46 k46 yc_47 yc_54 yc_58 yc_62 yc_66 b244 k244 nv2_294 ct 4 nl2_294 T294.heap f300 f299 q294_0 gz262 q294_1 hct (show 1 ≤ 4 from by omega) (show 4 ≤ 4 from by omega) hA) hZ134 (wd136 hw) (wd2 hw) (by decide) (by decide)) (by rw [hml]; rfl) (lenOf pd41 rfl) rfl (Nat.le_of_eq rfl) (hb Y at_403) (q := 406) rfl (by decide) (by decide) ?_
 intro v298 T298 L298 X298 Q298
 obtain ⟨nl2_298, nv2_298, rfl, Nq298, K298q, q298_0, q298_1⟩ := Q298
 have N298 := Fr.app N294 Nq298
 show Go _ _ _ _ (T298.setTop (mkF m 406 _ [(.int (Int32.ofNat nl2_298))]))
 refine sIw X298 hx (hb Y at_406) (q := 408) rfl (Ls' := #[vi x0, vi x1, .val (.long x2), .second, vi x3, vi kd, vi (Int32.ofNat sh), vi yc_22, vi yc_23, vr b24, vi (Int32.ofNat pl), vi (Int32.ofNat ql), vr r_39, vr b46, vi (Int32.ofNat el), vr r_70, vr b79, vi bb_134, vi (Int32.ofNat ct), vr b244, vi (Int32.ofNat nl2_298), uS]) rfl ?_
 have f301 := f153.trans R134
 have f302 := f301.trans (CHr.ext E244 f301.1)
 have f303 := f302.trans (CHr.keep K254q (sfS (Safe.arv hZ134.alike Va244 (by decide)) sf0) f302.1)
 have f304 := f303.trans (CHr.keep K276q (sfS (Safe.arv hZ134.alike q254_0 (by decide)) sf0) f303.1)
 have f305 := f304.trans (CHr.keep K290q (sfS (Safe.arv hZ134.alike q276_0 (by decide)) sf0) f304.1)
 have f306 := f305.trans (CHr.keep K294q (sfS (Safe.arv hZ134.alike q290_0 (by decide)) sf0) f305.1)
 have f307 := f306.trans (CHr.keep K298q (sfS (Safe.arv hZ134.alike q294_0 (by decide)) sf0) f306.1)
 have le308 := E244.1
 have le309 := (Nat.le_trans le308 K254q.1)
 have le310 := (Nat.le_trans le309 K276q.1)
 have le311 := (Nat.le_trans le310 K290q.1)
 have le312 := (Nat.le_trans le311 K294q.1)
 have le313 := (Nat.le_trans le312 K298q.1)
 have K314 := (Keep.refl h32 []).trans K39q all0
 have K315 := K314.ext E46
 have le316 := K39q.1
 have K317 := K315.wr W50 (Or.inr (Nat.le_trans le316 (Nat.le_of_eq g46.symm)))
 have K318 := K317.wr W56 (Or.inr (Nat.le_trans le316 (Nat.le_of_eq g46.symm)))
 have K319 := K318.wr W60 (Or.inr (Nat.le_trans le316 (Nat.le_of_eq g46.symm)))
 have K320 := K319.wr W64 (Or.inr (Nat.le_trans le316 (Nat.le_of_eq g46.symm)))
 have K321 := K320.wr W68 (Or.inr (Nat.le_trans le316 (Nat.le_of_eq g46.symm)))
 have K322 := K321.trans K70q all0
 have K323 := K322.ext E79
 have le324 := (Nat.le_trans le316 E46.1)
 have le325 := (Nat.le_trans le324 (Nat.le_of_eq (Wr.size W50).symm))
 have le326 := (Nat.le_trans le325 (Nat.le_of_eq (Wr.size W56).symm))
 have le327 := (Nat.le_trans le326 (Nat.le_of_eq (Wr.size W60).symm))
 have le328 := (Nat.le_trans le327 (Nat.le_of_eq (Wr.size W64).symm))
 have le329 := (Nat.le_trans le328 (Nat.le_of_eq (Wr.size W68).symm))
 have le330 := (Nat.le_trans le329 K70q.1)
 have K331 := K323.trans K97q (allS (Or.inr (Nat.le_trans le330 (Nat.le_of_eq g79.symm))) all0)
 have K332 := K331.trans K134q all0
 have K333 := K332.ext E244
 have le334 := (Nat.le_trans le330 E79.1)
 have le335 := (Nat.le_trans le334 K97q.1)
 have le336 := (Nat.le_trans le335 K134q.1)
 have K337 := K333.trans K254q (allS (Or.inr (Nat.le_trans le336 (Nat.le_of_eq g244.symm))) all0)
 have K338 := K337.trans K276q (allS (Or.inr (Nat.le_trans le336 (Nat.le_of_eq g244.symm))) all0)
 have K339 := K338.trans K290q (allS (Or.inr (Nat.le_trans le336 (Nat.le_of_eq g244.symm))) all0)
 have K340 := K339.trans K294q (allS (Or.inr (Nat.le_trans le336 (Nat.le_of_eq g244.symm))) all0)
 have K341 := K340.trans K298q (allS (Or.inr (Nat.le_trans le336 (Nat.le_of_eq g244.symm))) all0)
 have f342 := Va32.keep K341 nin0
 have hN5 := q298_1
 have hls := nrm_is (show el ≤ ([yc_47, yc_54, yc_58, yc_62, yc_66] : List Int32).length from hel) q134_1 h226
 have hnn : nl2_298 = nl_134 := by rw [hN5.2.1, Nat.min_eq_right hct, ← hls]; exact q134_2
 have PL : ∀ j, j < nl2_298 → nv2_298.getD j (.int 0) = .int (ls_134.getD j 0) := fun j hj => by have q := hN5.2.2 j hj; rw [Nat.min_eq_right hct, ← hls] at q; exact q
 have h55 : nl2_298 ≤ 5 := npp_le hN5
 refine iLw X298 hx (hb Y at_408) (q := 410) rfl rfl ?_
 by_cases hc343 : kd = (0 : Int32)
 ·refine ifN X298 hx (hb Y at_410) (q := 413) rfl ((if0 _ _).trans (teq hc343).2) ?_
  refine cI X298 hx (hb Y at_413) (q := 414) rfl (z := 1) rfl ?_
  refine sIw X298 hx (hb Y at_414) (q := 416) rfl (Ls' := #[vi x0, vi x1, .val (.long x2), .second, vi x3, vi kd, vi (Int32.ofNat sh), vi yc_22, vi yc_23, vr b24, vi (Int32.ofNat pl), vi (Int32.ofNat ql), vr r_39, vr b46, vi (Int32.ofNat el), vr r_70, vr b79, vi bb_134, vi (Int32.ofNat ct), vr b244, vi (Int32.ofNat nl2_298), vi 1]) rfl ?_
  refine g_goto X298 hx (hb Y at_416) (q := 520) (by decide) (by decide) ?_
  refine iLw X298 hx (hb Y at_520) (q := 522) rfl rfl ?_
  refine iLw X298 hx (hb Y at_522) (q := 524) rfl rfl ?_
  refine icN X298 hx (hb Y at_524) (q := 527) rfl (teq (bit_y q134_0 (fin0 q39_7 hc343))).2 ?_
  refine cI X298 hx (hb Y at_527) (q := 528) rfl (z := 1) rfl ?_
  refine g_goto X298 hx (hb Y at_528) (q := 532) (by decide) (by decide) ?_
  refine endC X298 hlk hS134 (Nat.le_trans (Nat.le_refl _) le313) hZ134 (own_EW hw) f307 (fun h => by rw [hret] at h; cases h) (lastN X298 hx (t := .boolean) (z' := (1 : Int32)) hret (by simp) (by decide) (hb Y at_532)) ?_ (by decide) (by decide)
  exact ⟨rfl, N298, trivial⟩
 ·refine ifY X298 hx (hb Y at_410) (q := 419) (by decide) (by decide) ((if0 _ _).trans (feq hc343).2) ?_
  refine iLw X298 hx (hb Y at_419) (q := 421) rfl rfl ?_
  refine cI X298 hx (hb Y at_421) (q := 422) rfl (z := 1) rfl ?_
  by_cases hc344 : kd = (1 : Int32)
  ·refine icN X298 hx (hb Y at_422) (q := 425) rfl (teq hc344).2 ?_
   have hf := fin1 q39_7 hc343 hc344 q39_4 q134_2 hnn q22_4 q23_4 pl1 pl4
   refine iLw X298 hx (hb Y at_425) (q := 427) rfl rfl ?_
   refine iLw X298 hx (hb Y at_427) (q := 429) rfl rfl ?_
   rcases Classical.em (nl2_298 = pl) with hc345 | hc345
   ·refine icN X298 hx (hb Y at_429) (q := 432) rfl (teq (congrArg Int32.ofNat hc345)).2 ?_
    refine aLw X298 hx (hb Y at_432) (q := 434) rfl rfl rfl ?_
    refine iLw X298 hx (hb Y at_434) (q := 436) rfl rfl ?_
    refine aLw X298 hx (hb Y at_436) (q := 438) rfl rfl rfl ?_
    refine iLw X298 hx (hb Y at_438) (q := 440) rfl rfl ?_
    have f347 := f300.keep K298q (allS gz262 all0)
    refine g_st X298 hx hZ134 hown134 (wd218 hw) (wd219 hw) (wd2 hw) (wd220 hw) (by decide) rfl (Con.back (W := 0) (rm_eqP l Z a0 hw zC vF G b244 k244 nv2_298 nl2_298 b24 k24 yc_22 yc_23 pl ls_134 T298.heap f347 q298_0 f342 h55 (show pl ≤ 4 from by omega) PL) hZ134 (wd220 hw) (wd2 hw) (by decide) (by decide)) (by rw [hml]; rfl) (lenOf pd42 rfl) rfl (Nat.le_of_eq rfl) (hb Y at_440) (q := 443) rfl (by decide) (by decide) ?_
    intro v346 T346 L346 X346 Q346
    obtain ⟨bb_346, rfl, Nq346, e346, q346_0⟩ := Q346
    have N346 := Fr.app N298 Nq346
    show Go _ _ _ _ (T346.setTop (mkF m 443 _ [(.int bb_346)]))
    rcases q346_0 with ⟨hE348, rfl⟩ | ⟨hE348, rfl⟩
    ·show Go _ _ _ _ (T346.setTop (mkF m 443 #[vi x0, vi x1, .val (.long x2), .second, vi x3, vi kd, vi (Int32.ofNat sh), vi yc_22, vi yc_23, vr b24, vi (Int32.ofNat pl), vi (Int32.ofNat ql), vr r_39, vr b46, vi (Int32.ofNat el), vr r_70, vr b79, vi bb_134, vi (Int32.ofNat ct), vr b244, vi (Int32.ofNat nl2_298), uS] [(iv 1)]))
     refine ifN X346 hx (hb Y at_443) (q := 446) rfl (by decide) ?_
     refine cI X346 hx (hb Y at_446) (q := 447) rfl (z := 1) rfl ?_
     refine g_goto X346 hx (hb Y at_447) (q := 451) (by decide) (by decide) ?_
     refine sIw X346 hx (hb Y at_451) (q := 453) rfl (Ls' := #[vi x0, vi x1, .val (.long x2), .second, vi x3, vi kd, vi (Int32.ofNat sh), vi yc_22, vi yc_23, vr b24, vi (Int32.ofNat pl), vi (Int32.ofNat ql), vr r_39, vr b46, vi (Int32.ofNat el), vr r_70, vr b79, vi bb_134, vi (Int32.ofNat ct), vr b244, vi (Int32.ofNat nl2_298), vi 1]) rfl ?_
     refine g_goto X346 hx (hb Y at_453) (q := 520) (by decide) (by decide) ?_
     refine iLw X346 hx (hb Y at_520) (q := 522) rfl rfl ?_
     refine iLw X346 hx (hb Y at_522) (q := 524) rfl rfl ?_
     refine icN X346 hx (hb Y at_524) (q := 527) rfl (teq (bit_y q134_0 (hf.mpr ⟨hc345, hE348⟩))).2 ?_
     refine cI X346 hx (hb Y at_527) (q := 528) rfl (z := 1) rfl ?_
     refine g_goto X346 hx (hb Y at_528) (q := 532) (by decide) (by decide) ?_
     refine endC X346 hlk hS134 (by rw [e346]; exact (Nat.le_trans (Nat.le_refl _) le313)) hZ134 (own_EW hw) (by rw [e346]; exact f307) (fun h => by rw [hret] at h; cases h) (lastN X346 hx (t := .boolean) (z' := (1 : Int32)) hret (by simp) (by decide) (hb Y at_532)) ?_ (by decide) (by decide)
     rw [e346]
     exact ⟨rfl, N346, trivial⟩
    ·show Go _ _ _ _ (T346.setTop (mkF m 443 #[vi x0, vi x1, .val (.long x2), .second, vi x3, vi kd, vi (Int32.ofNat sh), vi yc_22, vi yc_23, vr b24, vi (Int32.ofNat pl), vi (Int32.ofNat ql), vr r_39, vr b46, vi (Int32.ofNat el), vr r_70, vr b79, vi bb_134, vi (Int32.ofNat ct), vr b244, vi (Int32.ofNat nl2_298), uS] [(iv 0)]))
     refine ifY X346 hx (hb Y at_443) (q := 450) (by decide) (by decide) (by decide) ?_
     refine cI X346 hx (hb Y at_450) (q := 451) rfl (z := 0) rfl ?_
     refine sIw X346 hx (hb Y at_451) (q := 453) rfl (Ls' := #[vi x0, vi x1, .val (.long x2), .second, vi x3, vi kd, vi (Int32.ofNat sh), vi yc_22, vi yc_23, vr b24, vi (Int32.ofNat pl), vi (Int32.ofNat ql), vr r_39, vr b46, vi (Int32.ofNat el), vr r_70, vr b79, vi bb_134, vi (Int32.ofNat ct), vr b244, vi (Int32.ofNat nl2_298), vi 0]) rfl ?_
     refine g_goto X346 hx (hb Y at_453) (q := 520) (by decide) (by decide) ?_
     refine iLw X346 hx (hb Y at_520) (q := 522) rfl rfl ?_
     refine iLw X346 hx (hb Y at_522) (q := 524) rfl rfl ?_
     refine icN X346 hx (hb Y at_524) (q := 527) rfl (teq (bit_n q134_0 (fun z => hE348 (hf.mp z).2))).2 ?_
     refine cI X346 hx (hb Y at_527) (q := 528) rfl (z := 1) rfl ?_
     refine g_goto X346 hx (hb Y at_528) (q := 532) (by decide) (by decide) ?_
     refine endC X346 hlk hS134 (by rw [e346]; exact (Nat.le_trans (Nat.le_refl _) le313)) hZ134 (own_EW hw) (by rw [e346]; exact f307) (fun h => by rw [hret] at h; cases h) (lastN X346 hx (t := .boolean) (z' := (1 : Int32)) hret (by simp) (by decide) (hb Y at_532)) ?_ (by decide) (by decide)
     rw [e346]
     exact ⟨rfl, N346, trivial⟩
   ·refine icY X298 hx (hb Y at_429) (q := 450) (by decide) (by decide) (feq (on_neq hc345 (show nl2_298 < 2147483648 from by omega) (show pl < 2147483648 from by omega))).2 ?_
    refine cI X298 hx (hb Y at_450) (q := 451) rfl (z := 0) rfl ?_
    refine sIw X298 hx (hb Y at_451) (q := 453) rfl (Ls' := #[vi x0, vi x1, .val (.long x2), .second, vi x3, vi kd, vi (Int32.ofNat sh), vi yc_22, vi yc_23, vr b24, vi (Int32.ofNat pl), vi (Int32.ofNat ql), vr r_39, vr b46, vi (Int32.ofNat el), vr r_70, vr b79, vi bb_134, vi (Int32.ofNat ct), vr b244, vi (Int32.ofNat nl2_298), vi 0]) rfl ?_
    refine g_goto X298 hx (hb Y at_453) (q := 520) (by decide) (by decide) ?_
    refine iLw X298 hx (hb Y at_520) (q := 522) rfl rfl ?_
    refine iLw X298 hx (hb Y at_522) (q := 524) rfl rfl ?_
    refine icN X298 hx (hb Y at_524) (q := 527) rfl (teq (bit_n q134_0 (fun z => hc345 (hf.mp z).1))).2 ?_
    refine cI X298 hx (hb Y at_527) (q := 528) rfl (z := 1) rfl ?_
    refine g_goto X298 hx (hb Y at_528) (q := 532) (by decide) (by decide) ?_
    refine endC X298 hlk hS134 (Nat.le_trans (Nat.le_refl _) le313) hZ134 (own_EW hw) f307 (fun h => by rw [hret] at h; cases h) (lastN X298 hx (t := .boolean) (z' := (1 : Int32)) hret (by simp) (by decide) (hb Y at_532)) ?_ (by decide) (by decide)
    exact ⟨rfl, N298, trivial⟩
  ·refine icY X298 hx (hb Y at_422) (q := 456) (by decide) (by decide) (feq hc344).2 ?_
   have hf := fin2 q39_7 hc343 hc344 q39_4 q134_2 hnn hq3
   refine iLw X298 hx (hb Y at_456) (q := 458) rfl rfl ?_
   refine iLw X298 hx (hb Y at_458) (q := 460) rfl rfl ?_
   rcases Nat.lt_or_ge ql nl2_298 with hc349 | hc349
   ·refine icN X298 hx (hb Y at_460) (q := 463) rfl (tlt (on_lt (i := ql) (n := nl2_298) hc349 (show nl2_298 < 2147483648 from by omega))).2.2.2 ?_
    refine aLw X298 hx (hb Y at_463) (q := 465) rfl rfl rfl ?_
    refine iLw X298 hx (hb Y at_465) (q := 467) rfl rfl ?_
    refine aLw X298 hx (hb Y at_467) (q := 469) rfl rfl rfl ?_
    refine iLw X298 hx (hb Y at_469) (q := 471) rfl rfl ?_
    have f351 := f300.keep K298q (allS gz262 all0)
    refine g_st X298 hx hZ134 hown134 (wd218 hw) (wd219 hw) (wd2 hw) (wd220 hw) (by decide) rfl (Con.back (W := 0) (rm_eqP l Z a0 hw zC vF G b244 k244 nv2_298 nl2_298 b24 k24 yc_22 yc_23 ql ls_134 T298.heap f351 q298_0 f342 h55 (show ql ≤ 4 from by omega) PL) hZ134 (wd220 hw) (wd2 hw) (by decide) (by decide)) (by rw [hml]; rfl) (lenOf pd42 rfl) rfl (Nat.le_of_eq rfl) (hb Y at_471) (q := 474) rfl (by decide) (by decide) ?_
    intro v350 T350 L350 X350 Q350
    obtain ⟨bb_350, rfl, Nq350, e350, q350_0⟩ := Q350
    have N350 := Fr.app N298 Nq350
    show Go _ _ _ _ (T350.setTop (mkF m 474 _ [(.int bb_350)]))
    rcases q350_0 with ⟨hE352, rfl⟩ | ⟨hE352, rfl⟩
    ·show Go _ _ _ _ (T350.setTop (mkF m 474 #[vi x0, vi x1, .val (.long x2), .second, vi x3, vi kd, vi (Int32.ofNat sh), vi yc_22, vi yc_23, vr b24, vi (Int32.ofNat pl), vi (Int32.ofNat ql), vr r_39, vr b46, vi (Int32.ofNat el), vr r_70, vr b79, vi bb_134, vi (Int32.ofNat ct), vr b244, vi (Int32.ofNat nl2_298), uS] [(iv 1)]))
     refine ifN X350 hx (hb Y at_474) (q := 477) rfl (by decide) ?_
     refine aLw X350 hx (hb Y at_477) (q := 479) rfl rfl rfl ?_
     refine iLw X350 hx (hb Y at_479) (q := 481) rfl rfl ?_
     refine g_ldC X350 hx hZ134 q298_0 (i := ql) (on_clamp (show ql < 2147483648 from by omega)) (on_nn (show ql < 2147483648 from by omega)) (on_lt (show ql < 5 from by omega) (show 5 < 2147483648 from by omega)) (v := (.int (ls_134.getD ql 0))) (PL ql hc349) e350 (hb Y at_481) (q := 482) rfl ?_
     refine bI X350 hx (hb Y at_482) (q := 484) rfl (z := 47) rfl ?_
     by_cases hc353 : (ls_134.getD ql 0) = (47 : Int32)
     ·refine icY X350 hx (hb Y at_484) (q := 513) (by decide) (by decide) (teq hc353).1 ?_
      refine cI X350 hx (hb Y at_513) (q := 514) rfl (z := 1) rfl ?_
      refine g_goto X350 hx (hb Y at_514) (q := 518) (by decide) (by decide) ?_
      refine sIw X350 hx (hb Y at_518) (q := 520) rfl (Ls' := #[vi x0, vi x1, .val (.long x2), .second, vi x3, vi kd, vi (Int32.ofNat sh), vi yc_22, vi yc_23, vr b24, vi (Int32.ofNat pl), vi (Int32.ofNat ql), vr r_39, vr b46, vi (Int32.ofNat el), vr r_70, vr b79, vi bb_134, vi (Int32.ofNat ct), vr b244, vi (Int32.ofNat nl2_298), vi 1]) rfl ?_
      refine iLw X350 hx (hb Y at_520) (q := 522) rfl rfl ?_
      refine iLw X350 hx (hb Y at_522) (q := 524) rfl rfl ?_
      refine icN X350 hx (hb Y at_524) (q := 527) rfl (teq (bit_y q134_0 (hf.mpr (Or.inl ⟨hc349, hE352, hc353⟩)))).2 ?_
      refine cI X350 hx (hb Y at_527) (q := 528) rfl (z := 1) rfl ?_
      refine g_goto X350 hx (hb Y at_528) (q := 532) (by decide) (by decide) ?_
      refine endC X350 hlk hS134 (by rw [e350]; exact (Nat.le_trans (Nat.le_refl _) le313)) hZ134 (own_EW hw) (by rw [e350]; exact f307) (fun h => by rw [hret] at h; cases h) (lastN X350 hx (t := .boolean) (z' := (1 : Int32)) hret (by simp) (by decide) (hb Y at_532)) ?_ (by decide) (by decide)
      rw [e350]
      exact ⟨rfl, N350, trivial⟩
     ·refine icN X350 hx (hb Y at_484) (q := 487) rfl (feq hc353).1 ?_
      refine iLw X350 hx (hb Y at_487) (q := 489) rfl rfl ?_
      rcases Nat.lt_or_ge 0 ql with hc354 | hc354
      ·refine ifN X350 hx (hb Y at_489) (q := 492) rfl ((if0 _ _).trans (tlt (on_lt (i := 0) (n := ql) hc354 (show ql < 2147483648 from by omega))).2.2.2) ?_
       refine iLw X350 hx (hb Y at_492) (q := 494) rfl rfl ?_
       refine iLw X350 hx (hb Y at_494) (q := 496) rfl rfl ?_
       refine icY X350 hx (hb Y at_496) (q := 517) (by decide) (by decide) (feq (on_neq (show ¬ nl2_298 = ql from by omega) (show nl2_298 < 2147483648 from by omega) (show ql < 2147483648 from by omega))).2 ?_
       refine cI X350 hx (hb Y at_517) (q := 518) rfl (z := 0) rfl ?_
       refine sIw X350 hx (hb Y at_518) (q := 520) rfl (Ls' := #[vi x0, vi x1, .val (.long x2), .second, vi x3, vi kd, vi (Int32.ofNat sh), vi yc_22, vi yc_23, vr b24, vi (Int32.ofNat pl), vi (Int32.ofNat ql), vr r_39, vr b46, vi (Int32.ofNat el), vr r_70, vr b79, vi bb_134, vi (Int32.ofNat ct), vr b244, vi (Int32.ofNat nl2_298), vi 0]) rfl ?_
       refine iLw X350 hx (hb Y at_520) (q := 522) rfl rfl ?_
       refine iLw X350 hx (hb Y at_522) (q := 524) rfl rfl ?_
       refine icN X350 hx (hb Y at_524) (q := 527) rfl (teq (bit_n q134_0 (fun z => (hf.mp z).elim (fun y => hc353 y.2.2) (fun y => absurd y.2.1 (by omega))))).2 ?_
       refine cI X350 hx (hb Y at_527) (q := 528) rfl (z := 1) rfl ?_
       refine g_goto X350 hx (hb Y at_528) (q := 532) (by decide) (by decide) ?_
       refine endC X350 hlk hS134 (by rw [e350]; exact (Nat.le_trans (Nat.le_refl _) le313)) hZ134 (own_EW hw) (by rw [e350]; exact f307) (fun h => by rw [hret] at h; cases h) (lastN X350 hx (t := .boolean) (z' := (1 : Int32)) hret (by simp) (by decide) (hb Y at_532)) ?_ (by decide) (by decide)
       rw [e350]
       exact ⟨rfl, N350, trivial⟩
      ·refine ifY X350 hx (hb Y at_489) (q := 517) (by decide) (by decide) ((if0 _ _).trans (flt (on_le (a := ql) (b := 0) hc354 (show 0 < 2147483648 from by omega))).2.2.2) ?_
       refine cI X350 hx (hb Y at_517) (q := 518) rfl (z := 0) rfl ?_
       refine sIw X350 hx (hb Y at_518) (q := 520) rfl (Ls' := #[vi x0, vi x1, .val (.long x2), .second, vi x3, vi kd, vi (Int32.ofNat sh), vi yc_22, vi yc_23, vr b24, vi (Int32.ofNat pl), vi (Int32.ofNat ql), vr r_39, vr b46, vi (Int32.ofNat el), vr r_70, vr b79, vi bb_134, vi (Int32.ofNat ct), vr b244, vi (Int32.ofNat nl2_298), vi 0]) rfl ?_
       refine iLw X350 hx (hb Y at_520) (q := 522) rfl rfl ?_
       refine iLw X350 hx (hb Y at_522) (q := 524) rfl rfl ?_
       refine icN X350 hx (hb Y at_524) (q := 527) rfl (teq (bit_n q134_0 (fun z => (hf.mp z).elim (fun y => hc353 y.2.2) (fun y => absurd y.1 (by omega))))).2 ?_
       refine cI X350 hx (hb Y at_527) (q := 528) rfl (z := 1) rfl ?_
       refine g_goto X350 hx (hb Y at_528) (q := 532) (by decide) (by decide) ?_
       refine endC X350 hlk hS134 (by rw [e350]; exact (Nat.le_trans (Nat.le_refl _) le313)) hZ134 (own_EW hw) (by rw [e350]; exact f307) (fun h => by rw [hret] at h; cases h) (lastN X350 hx (t := .boolean) (z' := (1 : Int32)) hret (by simp) (by decide) (hb Y at_532)) ?_ (by decide) (by decide)
       rw [e350]
       exact ⟨rfl, N350, trivial⟩
    ·show Go _ _ _ _ (T350.setTop (mkF m 474 #[vi x0, vi x1, .val (.long x2), .second, vi x3, vi kd, vi (Int32.ofNat sh), vi yc_22, vi yc_23, vr b24, vi (Int32.ofNat pl), vi (Int32.ofNat ql), vr r_39, vr b46, vi (Int32.ofNat el), vr r_70, vr b79, vi bb_134, vi (Int32.ofNat ct), vr b244, vi (Int32.ofNat nl2_298), uS] [(iv 0)]))
     refine ifY X350 hx (hb Y at_474) (q := 487) (by decide) (by decide) (by decide) ?_
     refine iLw X350 hx (hb Y at_487) (q := 489) rfl rfl ?_
     rcases Nat.lt_or_ge 0 ql with hc355 | hc355
     ·refine ifN X350 hx (hb Y at_489) (q := 492) rfl ((if0 _ _).trans (tlt (on_lt (i := 0) (n := ql) hc355 (show ql < 2147483648 from by omega))).2.2.2) ?_
      refine iLw X350 hx (hb Y at_492) (q := 494) rfl rfl ?_
      refine iLw X350 hx (hb Y at_494) (q := 496) rfl rfl ?_
      refine icY X350 hx (hb Y at_496) (q := 517) (by decide) (by decide) (feq (on_neq (show ¬ nl2_298 = ql from by omega) (show nl2_298 < 2147483648 from by omega) (show ql < 2147483648 from by omega))).2 ?_
      refine cI X350 hx (hb Y at_517) (q := 518) rfl (z := 0) rfl ?_
      refine sIw X350 hx (hb Y at_518) (q := 520) rfl (Ls' := #[vi x0, vi x1, .val (.long x2), .second, vi x3, vi kd, vi (Int32.ofNat sh), vi yc_22, vi yc_23, vr b24, vi (Int32.ofNat pl), vi (Int32.ofNat ql), vr r_39, vr b46, vi (Int32.ofNat el), vr r_70, vr b79, vi bb_134, vi (Int32.ofNat ct), vr b244, vi (Int32.ofNat nl2_298), vi 0]) rfl ?_
      refine iLw X350 hx (hb Y at_520) (q := 522) rfl rfl ?_
      refine iLw X350 hx (hb Y at_522) (q := 524) rfl rfl ?_
      refine icN X350 hx (hb Y at_524) (q := 527) rfl (teq (bit_n q134_0 (fun z => (hf.mp z).elim (fun y => hE352 y.2.1) (fun y => absurd y.2.1 (by omega))))).2 ?_
      refine cI X350 hx (hb Y at_527) (q := 528) rfl (z := 1) rfl ?_
      refine g_goto X350 hx (hb Y at_528) (q := 532) (by decide) (by decide) ?_
      refine endC X350 hlk hS134 (by rw [e350]; exact (Nat.le_trans (Nat.le_refl _) le313)) hZ134 (own_EW hw) (by rw [e350]; exact f307) (fun h => by rw [hret] at h; cases h) (lastN X350 hx (t := .boolean) (z' := (1 : Int32)) hret (by simp) (by decide) (hb Y at_532)) ?_ (by decide) (by decide)
      rw [e350]
      exact ⟨rfl, N350, trivial⟩
     ·refine ifY X350 hx (hb Y at_489) (q := 517) (by decide) (by decide) ((if0 _ _).trans (flt (on_le (a := ql) (b := 0) hc355 (show 0 < 2147483648 from by omega))).2.2.2) ?_
      refine cI X350 hx (hb Y at_517) (q := 518) rfl (z := 0) rfl ?_
      refine sIw X350 hx (hb Y at_518) (q := 520) rfl (Ls' := #[vi x0, vi x1, .val (.long x2), .second, vi x3, vi kd, vi (Int32.ofNat sh), vi yc_22, vi yc_23, vr b24, vi (Int32.ofNat pl), vi (Int32.ofNat ql), vr r_39, vr b46, vi (Int32.ofNat el), vr r_70, vr b79, vi bb_134, vi (Int32.ofNat ct), vr b244, vi (Int32.ofNat nl2_298), vi 0]) rfl ?_
      refine iLw X350 hx (hb Y at_520) (q := 522) rfl rfl ?_
      refine iLw X350 hx (hb Y at_522) (q := 524) rfl rfl ?_
      refine icN X350 hx (hb Y at_524) (q := 527) rfl (teq (bit_n q134_0 (fun z => (hf.mp z).elim (fun y => hE352 y.2.1) (fun y => absurd y.1 (by omega))))).2 ?_
      refine cI X350 hx (hb Y at_527) (q := 528) rfl (z := 1) rfl ?_
      refine g_goto X350 hx (hb Y at_528) (q := 532) (by decide) (by decide) ?_
      refine endC X350 hlk hS134 (by rw [e350]; exact (Nat.le_trans (Nat.le_refl _) le313)) hZ134 (own_EW hw) (by rw [e350]; exact f307) (fun h => by rw [hret] at h; cases h) (lastN X350 hx (t := .boolean) (z' := (1 : Int32)) hret (by simp) (by decide) (hb Y at_532)) ?_ (by decide) (by decide)
      rw [e350]
      exact ⟨rfl, N350, trivial⟩
   ·refine icY X298 hx (hb Y at_460) (q := 487) (by decide) (by decide) (flt (on_le (a := nl2_298) (b := ql) hc349 (show ql < 2147483648 from by omega))).2.2.2 ?_
    refine iLw X298 hx (hb Y at_487) (q := 489) rfl rfl ?_
    rcases Nat.lt_or_ge 0 ql with hc356 | hc356
    ·refine ifN X298 hx (hb Y at_489) (q := 492) rfl ((if0 _ _).trans (tlt (on_lt (i := 0) (n := ql) hc356 (show ql < 2147483648 from by omega))).2.2.2) ?_
     refine iLw X298 hx (hb Y at_492) (q := 494) rfl rfl ?_
     refine iLw X298 hx (hb Y at_494) (q := 496) rfl rfl ?_
     rcases Classical.em (nl2_298 = ql) with hc357 | hc357
     ·refine icN X298 hx (hb Y at_496) (q := 499) rfl (teq (congrArg Int32.ofNat hc357)).2 ?_
      refine aLw X298 hx (hb Y at_499) (q := 501) rfl rfl rfl ?_
      refine iLw X298 hx (hb Y at_501) (q := 503) rfl rfl ?_
      refine aLw X298 hx (hb Y at_503) (q := 505) rfl rfl rfl ?_
      refine iLw X298 hx (hb Y at_505) (q := 507) rfl rfl ?_
      have f359 := f300.keep K298q (allS gz262 all0)
      refine g_st X298 hx hZ134 hown134 (wd218 hw) (wd219 hw) (wd2 hw) (wd220 hw) (by decide) rfl (Con.back (W := 0) (rm_eqP l Z a0 hw zC vF G b244 k244 nv2_298 nl2_298 b24 k24 yc_22 yc_23 ql ls_134 T298.heap f359 q298_0 f342 h55 (show ql ≤ 4 from by omega) PL) hZ134 (wd220 hw) (wd2 hw) (by decide) (by decide)) (by rw [hml]; rfl) (lenOf pd42 rfl) rfl (Nat.le_of_eq rfl) (hb Y at_507) (q := 510) rfl (by decide) (by decide) ?_
      intro v358 T358 L358 X358 Q358
      obtain ⟨bb_358, rfl, Nq358, e358, q358_0⟩ := Q358
      have N358 := Fr.app N298 Nq358
      show Go _ _ _ _ (T358.setTop (mkF m 510 _ [(.int bb_358)]))
      rcases q358_0 with ⟨hE360, rfl⟩ | ⟨hE360, rfl⟩
      ·show Go _ _ _ _ (T358.setTop (mkF m 510 #[vi x0, vi x1, .val (.long x2), .second, vi x3, vi kd, vi (Int32.ofNat sh), vi yc_22, vi yc_23, vr b24, vi (Int32.ofNat pl), vi (Int32.ofNat ql), vr r_39, vr b46, vi (Int32.ofNat el), vr r_70, vr b79, vi bb_134, vi (Int32.ofNat ct), vr b244, vi (Int32.ofNat nl2_298), uS] [(iv 1)]))
       refine ifN X358 hx (hb Y at_510) (q := 513) rfl (by decide) ?_
       refine cI X358 hx (hb Y at_513) (q := 514) rfl (z := 1) rfl ?_
       refine g_goto X358 hx (hb Y at_514) (q := 518) (by decide) (by decide) ?_
       refine sIw X358 hx (hb Y at_518) (q := 520) rfl (Ls' := #[vi x0, vi x1, .val (.long x2), .second, vi x3, vi kd, vi (Int32.ofNat sh), vi yc_22, vi yc_23, vr b24, vi (Int32.ofNat pl), vi (Int32.ofNat ql), vr r_39, vr b46, vi (Int32.ofNat el), vr r_70, vr b79, vi bb_134, vi (Int32.ofNat ct), vr b244, vi (Int32.ofNat nl2_298), vi 1]) rfl ?_
       refine iLw X358 hx (hb Y at_520) (q := 522) rfl rfl ?_
       refine iLw X358 hx (hb Y at_522) (q := 524) rfl rfl ?_
       refine icN X358 hx (hb Y at_524) (q := 527) rfl (teq (bit_y q134_0 (hf.mpr (Or.inr ⟨hc356, hc357, hE360⟩)))).2 ?_
       refine cI X358 hx (hb Y at_527) (q := 528) rfl (z := 1) rfl ?_
       refine g_goto X358 hx (hb Y at_528) (q := 532) (by decide) (by decide) ?_
       refine endC X358 hlk hS134 (by rw [e358]; exact (Nat.le_trans (Nat.le_refl _) le313)) hZ134 (own_EW hw) (by rw [e358]; exact f307) (fun h => by rw [hret] at h; cases h) (lastN X358 hx (t := .boolean) (z' := (1 : Int32)) hret (by simp) (by decide) (hb Y at_532)) ?_ (by decide) (by decide)
       rw [e358]
       exact ⟨rfl, N358, trivial⟩
      ·show Go _ _ _ _ (T358.setTop (mkF m 510 #[vi x0, vi x1, .val (.long x2), .second, vi x3, vi kd, vi (Int32.ofNat sh), vi yc_22, vi yc_23, vr b24, vi (Int32.ofNat pl), vi (Int32.ofNat ql), vr r_39, vr b46, vi (Int32.ofNat el), vr r_70, vr b79, vi bb_134, vi (Int32.ofNat ct), vr b244, vi (Int32.ofNat nl2_298), uS] [(iv 0)]))
       refine ifY X358 hx (hb Y at_510) (q := 517) (by decide) (by decide) (by decide) ?_
       refine cI X358 hx (hb Y at_517) (q := 518) rfl (z := 0) rfl ?_
       refine sIw X358 hx (hb Y at_518) (q := 520) rfl (Ls' := #[vi x0, vi x1, .val (.long x2), .second, vi x3, vi kd, vi (Int32.ofNat sh), vi yc_22, vi yc_23, vr b24, vi (Int32.ofNat pl), vi (Int32.ofNat ql), vr r_39, vr b46, vi (Int32.ofNat el), vr r_70, vr b79, vi bb_134, vi (Int32.ofNat ct), vr b244, vi (Int32.ofNat nl2_298), vi 0]) rfl ?_
       refine iLw X358 hx (hb Y at_520) (q := 522) rfl rfl ?_
       refine iLw X358 hx (hb Y at_522) (q := 524) rfl rfl ?_
       refine icN X358 hx (hb Y at_524) (q := 527) rfl (teq (bit_n q134_0 (fun z => (hf.mp z).elim (fun y => absurd y.1 (by omega)) (fun y => hE360 y.2.2)))).2 ?_
       refine cI X358 hx (hb Y at_527) (q := 528) rfl (z := 1) rfl ?_
       refine g_goto X358 hx (hb Y at_528) (q := 532) (by decide) (by decide) ?_
       refine endC X358 hlk hS134 (by rw [e358]; exact (Nat.le_trans (Nat.le_refl _) le313)) hZ134 (own_EW hw) (by rw [e358]; exact f307) (fun h => by rw [hret] at h; cases h) (lastN X358 hx (t := .boolean) (z' := (1 : Int32)) hret (by simp) (by decide) (hb Y at_532)) ?_ (by decide) (by decide)
       rw [e358]
       exact ⟨rfl, N358, trivial⟩
     ·refine icY X298 hx (hb Y at_496) (q := 517) (by decide) (by decide) (feq (on_neq hc357 (show nl2_298 < 2147483648 from by omega) (show ql < 2147483648 from by omega))).2 ?_
      refine cI X298 hx (hb Y at_517) (q := 518) rfl (z := 0) rfl ?_
      refine sIw X298 hx (hb Y at_518) (q := 520) rfl (Ls' := #[vi x0, vi x1, .val (.long x2), .second, vi x3, vi kd, vi (Int32.ofNat sh), vi yc_22, vi yc_23, vr b24, vi (Int32.ofNat pl), vi (Int32.ofNat ql), vr r_39, vr b46, vi (Int32.ofNat el), vr r_70, vr b79, vi bb_134, vi (Int32.ofNat ct), vr b244, vi (Int32.ofNat nl2_298), vi 0]) rfl ?_
      refine iLw X298 hx (hb Y at_520) (q := 522) rfl rfl ?_
      refine iLw X298 hx (hb Y at_522) (q := 524) rfl rfl ?_
      refine icN X298 hx (hb Y at_524) (q := 527) rfl (teq (bit_n q134_0 (fun z => (hf.mp z).elim (fun y => absurd y.1 (by omega)) (fun y => hc357 y.2.1)))).2 ?_
      refine cI X298 hx (hb Y at_527) (q := 528) rfl (z := 1) rfl ?_
      refine g_goto X298 hx (hb Y at_528) (q := 532) (by decide) (by decide) ?_
      refine endC X298 hlk hS134 (Nat.le_trans (Nat.le_refl _) le313) hZ134 (own_EW hw) f307 (fun h => by rw [hret] at h; cases h) (lastN X298 hx (t := .boolean) (z' := (1 : Int32)) hret (by simp) (by decide) (hb Y at_532)) ?_ (by decide) (by decide)
      exact ⟨rfl, N298, trivial⟩
    ·refine ifY X298 hx (hb Y at_489) (q := 517) (by decide) (by decide) ((if0 _ _).trans (flt (on_le (a := ql) (b := 0) hc356 (show 0 < 2147483648 from by omega))).2.2.2) ?_
     refine cI X298 hx (hb Y at_517) (q := 518) rfl (z := 0) rfl ?_
     refine sIw X298 hx (hb Y at_518) (q := 520) rfl (Ls' := #[vi x0, vi x1, .val (.long x2), .second, vi x3, vi kd, vi (Int32.ofNat sh), vi yc_22, vi yc_23, vr b24, vi (Int32.ofNat pl), vi (Int32.ofNat ql), vr r_39, vr b46, vi (Int32.ofNat el), vr r_70, vr b79, vi bb_134, vi (Int32.ofNat ct), vr b244, vi (Int32.ofNat nl2_298), vi 0]) rfl ?_
     refine iLw X298 hx (hb Y at_520) (q := 522) rfl rfl ?_
     refine iLw X298 hx (hb Y at_522) (q := 524) rfl rfl ?_
     refine icN X298 hx (hb Y at_524) (q := 527) rfl (teq (bit_n q134_0 (fun z => (hf.mp z).elim (fun y => absurd y.1 (by omega)) (fun y => absurd y.1 (by omega))))).2 ?_
     refine cI X298 hx (hb Y at_527) (q := 528) rfl (z := 1) rfl ?_
     refine g_goto X298 hx (hb Y at_528) (q := 532) (by decide) (by decide) ?_
     refine endC X298 hlk hS134 (Nat.le_trans (Nat.le_refl _) le313) hZ134 (own_EW hw) f307 (fun h => by rw [hret] at h; cases h) (lastN X298 hx (t := .boolean) (z' := (1 : Int32)) hret (by simp) (by decide) (hb Y at_532)) ?_ (by decide) (by decide)
     exact ⟨rfl, N298, trivial⟩
theorem comes_1 {Post : Tables → Env → Array Value → State → Outcome → State → Prop} (hpost : ∀ tb e args s v u, (limb_1_1.after args s (.returned v) u = true ∧ limb_1_2.after args s (.returned v) u = true) → ReturnedEndW s (.returned v) u (Jvm.fieldLocs frame_1_writes args s ++ Jvm.arrayLocs frame_1_arrays args s ++ Jvm.staticLocs frame_1_statics s) 64 9472 → Post tb e args s (.returned v) u) :
    ArmFor flags0 classFile x code maxLocals ret World_1 tables_1 room_1 Calls_1 rest_1 Pre_1 Post := by
  intro l hfl _ _ p e ha hc hk s m args below hf hA hF happ hP
  obtain ⟨hcalls, hrest, hpre⟩ := hP
  obtain ⟨-, -, -, hnamed, -, -, -, hat⟩ := (Spec.applies_iff hf).mp happ
  obtain ⟨hg, hn⟩ := and_e (Cond.before_iff.mp (show (Jvm.Cond.and given_1 narrow_1).before args s = true from hpre))
  obtain ⟨g0, r0⟩ := and_e hg
  obtain ⟨i0, r1⟩ := and_e r0
  obtain ⟨i1, r2⟩ := and_e r1
  obtain ⟨i2, r3⟩ := and_e r2
  obtain ⟨w0, w1, w2, w3, rfl⟩ : ∃ w0 w1 w2 w3 : Value, args = #[w0, w1, w2, w3] := by
    have hs : args.size = 4 := by simpa [Cond.value, given_1] using g0
    obtain ⟨L⟩ := args
    match L, hs with
    | [w0, w1, w2, w3], _ => exact ⟨w0, w1, w2, w3, rfl⟩
  have hw := fun d (hd : d ∈ tables_1) => atoms_spec (ws := Jvm.Cond.code x code maxLocals ret :: tables_1) hat d (List.mem_cons_of_mem _ hd)
  obtain ⟨hsets, hown0⟩ := atoms_of _ (rest_1_c_eq ▸ (show rest_1_c.before _ s = true from hrest))
  have hfit : Fit s := fun {y c} hc i hi => by
    obtain ⟨ha, rfl⟩ := Array.getElem?_eq_some_iff.mp hc
    have q := List.all_eq_true.mp ((Array.all_eq_true_iff_forall_mem.mp hF) _ (Array.getElem_mem ha)) i (List.mem_range.mpr hi)
    simpa [Array.getElem?_eq_getElem hi] using q
  obtain ⟨z0, q0⟩ := is_v i0
  obtain rfl : w0 = (.int z0) := Option.some.inj q0
  obtain ⟨z1, q1⟩ := is_v i1
  obtain rfl : w1 = (.int z1) := Option.some.inj q1
  obtain ⟨z2, q2⟩ := isL_v i2
  obtain rfl : w2 = (.long z2) := Option.some.inj q2
  obtain ⟨z3, q3⟩ := is_v r3
  obtain rfl : w3 = (.int z3) := Option.some.inj q3
  have n5 := not_v (Cond.before_iff.mp (hsets _ (List.mem_of_getElem? (i := 2) rfl)))
  obtain ⟨zC, ezC⟩ := is_v (Cond.before_iff.mp (hsets _ (List.mem_of_getElem? (i := 1) rfl)))
  have SC : Sta s s.heap sT0 "COMPACT_STRINGS" "Z" (.int zC) := Sta.start ezC (Or.inl (hsets _ (List.mem_of_getElem? (i := 0) rfl)))
  have PC : ¬ (zC = (0 : Int32)) := gotF (Cond.eq_ints ezC (Term.int_eval (0))) n5
  obtain ⟨vF, evF, rF0⟩ := isR_v (Cond.before_iff.mp (hsets _ (List.mem_of_getElem? (i := 8) rfl)))
  have rF := ref_cases rF0
  have SF : Sta s s.heap "jdk/internal/util/Preconditions" "SIOOBE_FORMATTER" "Ljava/util/function/BiFunction;" vF := Sta.start evF (Or.inl (hsets _ (List.mem_of_getElem? (i := 7) rfl)))
  have hCH : CHv s EL s.vm s.heap := CHv.start (own_EW hw) hcalls.1 (hsets _ (List.mem_of_getElem? (i := 2) rfl)) (wd11 hw) (wd10 hw)
  obtain ⟨n, o, h1, h2, h3, _, L, rfl, hq1, -, hq⟩ := rm_law l s _ hw zC vF ⟨SC, PC, rF, SF⟩ z0 z1 z2 z3  s.heap (Old.start s)  tables_1 p e ha hc hk s m _ below hf ((Spec.applies_iff_loose hf).mp happ).1 ⟨rfl, State.Warmed39.refl s, rfl, hCH, fun _ q => nomatch q⟩ trivial
  obtain ⟨rfl, N, -⟩ := hq1
  exact ⟨n, _, h1, h2, h3, hpost _ _ _ _ _ _ ⟨Cond.after_iff.mpr rfl, Cond.after_iff.mpr (eq_i res_at (Term.int_eval (1)) rfl)⟩ ⟨hq.1, hq.2.1, hq.2.2.1, hq.2.2.2.sift fun y hy => Or.inr (N y hy)⟩⟩
theorem main_1_1 : Claimed_1_1 := comes_1 fun _ _ _ _ _ _ h hF => ⟨h.1, hF⟩
theorem main_1_2 : Claimed_1_2 := comes_1 fun _ _ _ _ _ _ h hF => ⟨h.2, hF⟩
end Jvm.Pilot.@@N@@
namespace Jvm.Pilot.@@N@@
open Jvm Jvm.ClassFile Sem Op Lib Jvm.Free Jvm.Stand Jvm.Pilot.@@N@@.Jvm.D
/-! MADE BY PROGRAM (witnessworld.py) out of the Statement's table words and the real class files: 27 classes; the members and pool entries that the words name. The judged class is class 1, her method 1. -/
namespace start1
open Jvm.ClassFile
def u (s : String) : CpInfo := .utf8 (stringToUtf16 s)
/-- a pool by its gaps: so many unusable entries, then the entry; so many at the end -/
def gap : Nat → List CpInfo → List CpInfo
  | 0, r => r
  | n + 1, r => .unusable :: gap n r
def poolList (es : List (Nat × CpInfo)) (last : Nat) : List CpInfo := es.foldr (fun e r => gap e.1 (e.2 :: r)) (gap last [])
def pool (es : List (Nat × CpInfo)) (last : Nat) : Array CpInfo := ⟨poolList es last⟩
def fileOf (pool : Array CpInfo) (this : Nat) (attrs : Array Attribute := #[]) (ms : Array MethodInfo := #[]) (fl : Nat := 33) (sup : Nat := 0) (ifs : Array Nat := #[]) (fds : Array FieldInfo := #[]) : ClassFile where
  minorVersion := 0
  majorVersion := 65
  constantPool := pool
  accessFlags := fl
  thisClass := this
  superClass := sup
  interfaces := ifs
  fields := fds
  methods := ms
  attributes := attrs
def plain (name : String) (sup : Option ClassId) : Class where
  name := name
  kind := .ordinary
  loader := none
  accessFlags := 33
  super := sup
  interfaces := #[]
  cf := none
  fields := #[]
  methods := #[]
  instanceTypes := #[]
  staticTypes := #[]
  resolved := #[]
  callSites := []
  init := .initialized
  statics := none
  mirror := none

def pool0 : Array CpInfo := pool [(5, u "<init>"), (0, u "()V"), (1, .class_ 10), (1, u "java/lang/Object")] 113

def k0c0 : Code := { maxStack := 0, maxLocals := 1, code := object_method_1_code, exceptionTable := #[], attributes := #[] }
def k0m0 : Method := { name := "<init>", desc := "()V", sig := { parameters := [], returnType := none }, accessFlags := 1, code := some k0c0 }
/-- java/lang/Object -/
def k0 : Class := { plain "java/lang/Object" none with
  accessFlags := 33
  interfaces := #[]
  cf := some (fileOf pool0 8 #[] #[{ accessFlags := 1, nameIndex := 5, descriptorIndex := 6, attributes := #[] }] 33 0 #[] #[])
  fields := #[]
  methods := #[k0m0]
  instanceTypes := #[]
  staticTypes := #[]
  resolved := Array.replicate 124 none
  statics := none }

def pool1 : Array CpInfo := pool [(2, .class_ 4), (1, u "java/lang/Object"), (0, u "<init>"), (0, u "()V"), (0, .methodref 8 9), (0, .class_ 10), (0, .nameAndType 11 12), (0, u "com/example/usage_throttle/usagethrottle/model/EndpointPatternMatchesPinLaw"), (0, u "segChar"), (0, u "(I)C"), (0, .methodref 8 14), (0, .nameAndType 15 16), (0, u "spell"), (0, u "(IIICC)Ljava/lang/String;"), (0, .long 1023), (1, .methodref 8 20), (0, .nameAndType 21 22), (0, u "draw"), (0, u "(ICC)C"), (0, .integer 2147483647), (0, .methodref 8 25), (0, .nameAndType 26 27), (0, u "text"), (0, u "([CI)Ljava/lang/String;"), (0, .class_ 29), (0, u "com/example/usage_throttle/usagethrottle/model/EndpointPattern"), (0, .methodref 28 31), (0, .nameAndType 5 32), (0, u "(Ljava/lang/String;)V"), (0, .methodref 28 34), (0, .nameAndType 35 36), (0, u "matches"), (0, u "(Ljava/lang/String;)Z"), (0, .methodref 8 38), (0, .nameAndType 39 40), (0, u "put"), (0, u "([CII[CI)I"), (0, .methodref 8 42), (0, .nameAndType 43 44), (0, u "eqP"), (0, u "([CI[CI)Z"), (0, .string 46), (0, u "*"), (0, .string 48), (0, u "/"), (0, .class_ 50), (0, u "java/lang/String"), (0, .methodref 49 52), (0, .nameAndType 5 53), (0, u "([C)V"), (0, .string 55), (0, u "/*"), (0, .string 57), (0, u ""), (2, u "law"), (0, u "(IIJI)Z")] 5

def k1m0 : Method := { name := "<init>", desc := "()V", sig := { parameters := [], returnType := none }, accessFlags := 1, code := none }
def k1c1 : Code := { maxStack := 6, maxLocals := 22, code := code, exceptionTable := #[], attributes := #[] }
def k1m1 : Method := { name := "law", desc := "(IIJI)Z", sig := { parameters := [.int, .int, .long, .int], returnType := some .boolean }, accessFlags := 9, code := some k1c1 }
def k1c2 : Code := { maxStack := 2, maxLocals := 2, code := method_3_code, exceptionTable := #[], attributes := #[] }
def k1m2 : Method := { name := "segChar", desc := "(I)C", sig := { parameters := [.int], returnType := some .char }, accessFlags := 10, code := some k1c2 }
def k1c3 : Code := { maxStack := 2, maxLocals := 5, code := method_4_code, exceptionTable := #[], attributes := #[] }
def k1m3 : Method := { name := "draw", desc := "(ICC)C", sig := { parameters := [.int, .char, .char], returnType := some .char }, accessFlags := 10, code := some k1c3 }
def k1c4 : Code := { maxStack := 6, maxLocals := 5, code := method_5_code, exceptionTable := #[], attributes := #[] }
def k1m4 : Method := { name := "spell", desc := "(IIICC)Ljava/lang/String;", sig := { parameters := [.int, .int, .int, .char, .char], returnType := some (.object "java/lang/String") }, accessFlags := 10, code := some k1c4 }
def k1c5 : Code := { maxStack := 7, maxLocals := 2, code := method_6_code, exceptionTable := #[], attributes := #[] }
def k1m5 : Method := { name := "text", desc := "([CI)Ljava/lang/String;", sig := { parameters := [(.array .char), .int], returnType := some (.object "java/lang/String") }, accessFlags := 10, code := some k1c5 }
def k1c6 : Code := { maxStack := 4, maxLocals := 5, code := method_7_code, exceptionTable := #[], attributes := #[] }
def k1m6 : Method := { name := "put", desc := "([CII[CI)I", sig := { parameters := [(.array .char), .int, .int, (.array .char), .int], returnType := some .int }, accessFlags := 10, code := some k1c6 }
def k1c7 : Code := { maxStack := 3, maxLocals := 4, code := method_8_code, exceptionTable := #[], attributes := #[] }
def k1m7 : Method := { name := "eqP", desc := "([CI[CI)Z", sig := { parameters := [(.array .char), .int, (.array .char), .int], returnType := some .boolean }, accessFlags := 10, code := some k1c7 }
/-- com/example/usage_throttle/usagethrottle/model/EndpointPatternMatchesPinLaw -/
def k1 : Class := { plain "com/example/usage_throttle/usagethrottle/model/EndpointPatternMatchesPinLaw" (some 0) with
  accessFlags := 49
  interfaces := #[]
  cf := some (fileOf pool1 8 #[] #[{ accessFlags := 1, nameIndex := 5, descriptorIndex := 6, attributes := #[] }, { accessFlags := 9, nameIndex := 60, descriptorIndex := 61, attributes := #[] }, { accessFlags := 10, nameIndex := 11, descriptorIndex := 12, attributes := #[] }, { accessFlags := 10, nameIndex := 21, descriptorIndex := 22, attributes := #[] }, { accessFlags := 10, nameIndex := 15, descriptorIndex := 16, attributes := #[] }, { accessFlags := 10, nameIndex := 26, descriptorIndex := 27, attributes := #[] }, { accessFlags := 10, nameIndex := 39, descriptorIndex := 40, attributes := #[] }, { accessFlags := 10, nameIndex := 43, descriptorIndex := 44, attributes := #[] }] 49 2 #[] #[])
  fields := #[]
  methods := #[k1m0, k1m1, k1m2, k1m3, k1m4, k1m5, k1m6, k1m7]
  instanceTypes := #[]
  staticTypes := #[]
  resolved := Array.replicate 67 none
  statics := none }

def pool2 : Array CpInfo := pool [(1, .class_ 2), (0, u "java/io/Serializable"), (0, .class_ 4), (0, u "java/lang/Object")] 2

/-- java/io/Serializable -/
def k2 : Class := { plain "java/io/Serializable" (some 0) with
  accessFlags := 1537
  interfaces := #[]
  cf := some (fileOf pool2 1 #[] #[] 1537 3 #[] #[])
  fields := #[]
  methods := #[]
  instanceTypes := #[]
  staticTypes := #[]
  resolved := Array.replicate 7 none
  statics := none }

def pool3 : Array CpInfo := pool [(1, .class_ 2), (0, u "java/lang/Comparable"), (0, .class_ 4), (0, u "java/lang/Object")] 7

/-- java/lang/Comparable -/
def k3 : Class := { plain "java/lang/Comparable" (some 0) with
  accessFlags := 1537
  interfaces := #[]
  cf := some (fileOf pool3 1 #[] #[] 1537 3 #[] #[])
  fields := #[]
  methods := #[]
  instanceTypes := #[]
  staticTypes := #[]
  resolved := Array.replicate 12 none
  statics := none }

def pool4 : Array CpInfo := pool [(2, .class_ 4), (1, u "java/lang/CharSequence"), (42, .class_ 48), (0, u "java/lang/CharSequence$1CodePointIterator"), (10, .class_ 60), (0, u "java/lang/CharSequence$1CharIterator"), (5, .class_ 67), (0, u "java/lang/Object"), (10, u "toString"), (0, u "()Ljava/lang/String;")] 51

def k4m0 : Method := { name := "toString", desc := "()Ljava/lang/String;", sig := { parameters := [], returnType := some (.object "java/lang/String") }, accessFlags := 1025, code := none }
/-- java/lang/CharSequence -/
def k4 : Class := { plain "java/lang/CharSequence" (some 0) with
  accessFlags := 1537
  interfaces := #[]
  cf := some (fileOf pool4 2 #[.nestMembers #[47, 59]] #[{ accessFlags := 1025, nameIndex := 78, descriptorIndex := 79, attributes := #[] }] 1537 66 #[] #[])
  fields := #[]
  methods := #[k4m0]
  instanceTypes := #[]
  staticTypes := #[]
  resolved := Array.replicate 131 none
  statics := none }

def pool5 : Array CpInfo := pool [(1, .class_ 2), (0, u "java/lang/constant/Constable"), (0, .class_ 4), (0, u "java/lang/Object")] 6

/-- java/lang/constant/Constable -/
def k5 : Class := { plain "java/lang/constant/Constable" (some 0) with
  accessFlags := 1537
  interfaces := #[]
  cf := some (fileOf pool5 1 #[] #[] 1537 3 #[] #[])
  fields := #[]
  methods := #[]
  instanceTypes := #[]
  staticTypes := #[]
  resolved := Array.replicate 11 none
  statics := none }

def pool6 : Array CpInfo := pool [(1, .class_ 2), (0, u "java/lang/constant/ConstantDesc"), (0, .class_ 4), (0, u "java/lang/Object")] 32

/-- java/lang/constant/ConstantDesc -/
def k6 : Class := { plain "java/lang/constant/ConstantDesc" (some 0) with
  accessFlags := 1537
  interfaces := #[]
  cf := some (fileOf pool6 1 #[] #[] 1537 3 #[] #[])
  fields := #[]
  methods := #[]
  instanceTypes := #[]
  staticTypes := #[]
  resolved := Array.replicate 37 none
  statics := none }

def pool7 : Array CpInfo := pool [(1, .methodref 2 3), (0, .class_ 4), (0, .nameAndType 5 6), (0, u "java/lang/Object"), (0, u "<init>"), (0, u "()V"), (2, .fieldref 10 11), (0, .class_ 12), (0, .nameAndType 13 14), (0, u "java/lang/String"), (0, u "value"), (0, u "[B"), (0, .fieldref 10 16), (0, .nameAndType 17 18), (0, u "coder"), (0, u "B"), (2, u "hash"), (0, u "I"), (2, u "hashIsZero"), (0, u "Z"), (0, .methodref 10 28), (0, .nameAndType 5 29), (0, u "([CIILjava/lang/Void;)V"), (8, .fieldref 10 39), (0, .nameAndType 40 26), (0, u "COMPACT_STRINGS"), (1, .class_ 44), (1, u "java/lang/StringUTF16"), (0, u "compress"), (1, .methodref 42 48), (0, .nameAndType 49 50), (0, u "coderFromArrayLen"), (0, u "([BI)B"), (3, .methodref 55 56), (0, .class_ 57), (0, .nameAndType 58 59), (0, u "java/util/Arrays"), (0, u "copyOfRange"), (0, u "([BII)[B"), (47, .class_ 109), (1, u "java/lang/StringLatin1"), (32, u "()Z"), (34, .methodref 42 178), (0, .nameAndType 45 179), (0, u "([CII)[B"), (31, u "([BB)V"), (122, u "()I"), (0, .methodref 10 336), (0, .nameAndType 17 337), (0, u "()B"), (2, u "()[B"), (22, u "([BI)C"), (12, u "([BI[BII)I"), (14, u "(II)V"), (35, u "(I)C"), (34, .nameAndType 463 464), (0, u "toString"), (0, u "()Ljava/lang/String;"), (24, .methodref 10 490), (0, .nameAndType 5 491), (0, u "(Ljava/lang/AbstractStringBuilder;Ljava/lang/Void;)V"), (0, .methodref 10 493), (0, .nameAndType 494 142), (0, u "isLatin1"), (0, .methodref 107 496), (0, .nameAndType 497 363), (0, u "charAt"), (3, u "checkIndex"), (3, .methodref 10 506), (0, .nameAndType 507 334), (0, u "length"), (5, u "checkFromToIndex"), (7, .methodref 10 522), (0, .nameAndType 523 524), (0, u "checkBoundsBeginEnd"), (0, u "(III)V"), (16, .methodref 107 542), (0, .nameAndType 543 544), (0, u "equals"), (0, u "([B[B)Z"), (3, u "(Ljava/lang/CharSequence;)Z"), (0, .methodref 550 506), (0, .class_ 551), (0, u "java/lang/AbstractStringBuilder"), (0, .methodref 550 553), (0, .nameAndType 554 340), (0, u "getValue"), (4, .class_ 561), (1, u "jdk/internal/util/ArraysSupport"), (0, u "mismatch"), (10, u "(Ljava/lang/Object;)Z"), (1, .class_ 576), (0, u "java/lang/CharSequence"), (7, u "regionMatches"), (4, u "([B[B)I"), (9, u "CASE_INSENSITIVE_ORDER"), (0, u "Ljava/util/Comparator;"), (6, .methodref 559 608), (0, .nameAndType 562 376), (3, u "(ILjava/lang/String;II)Z"), (11, .methodref 10 625), (0, .nameAndType 626 627), (0, u "startsWith"), (0, u "(Ljava/lang/String;I)Z"), (5, .methodref 10 634), (0, .nameAndType 635 636), (0, u "indexOf"), (0, u "(II)I"), (0, .methodref 107 638), (0, .nameAndType 635 639), (0, u "([BIII)I"), (7, .methodref 107 648), (0, .nameAndType 635 589), (34, u "substring"), (0, u "(II)Ljava/lang/String;"), (0, .methodref 107 686), (0, .nameAndType 687 688), (0, u "newString"), (0, u "([BII)Ljava/lang/String;"), (21, .interfaceMethodref 575 462), (0, .methodref 10 712), (0, .nameAndType 635 713), (0, u "(Ljava/lang/String;)I"), (51, u "(I)I"), (244, u "([C)V"), (36, .methodref 550 493), (5, .fieldref 1054 1055), (0, .class_ 1056), (0, .nameAndType 1057 1058), (0, u "jdk/internal/util/Preconditions"), (0, u "SIOOBE_FORMATTER"), (0, u "Ljava/util/function/BiFunction;"), (0, .methodref 1054 1060), (0, .nameAndType 501 1061), (0, u "(IILjava/util/function/BiFunction;)I"), (0, .methodref 1054 1063), (0, .nameAndType 513 1064), (0, u "(IIILjava/util/function/BiFunction;)I"), (36, u "serialPersistentFields"), (0, u "[Ljava/io/ObjectStreamField;"), (0, .class_ 1104), (0, u "java/lang/String$CaseInsensitiveComparator"), (1, .class_ 1107), (0, u "java/io/Serializable"), (0, .class_ 1109), (0, u "java/lang/Comparable"), (0, .class_ 1111), (0, u "java/lang/constant/Constable"), (0, .class_ 1113), (0, u "java/lang/constant/ConstantDesc"), (2, u "serialVersionUID"), (0, u "J"), (3, u "REPL"), (0, u "C"), (2, u "LATIN1"), (1, u "UTF16"), (105, u "(Ljava/lang/StringBuilder;)V"), (23, u "(Ljava/lang/String;)Z"), (14, u "endsWith"), (18, u "contains")] 159

def k7m0 : Method := { name := "<init>", desc := "()V", sig := { parameters := [], returnType := none }, accessFlags := 1, code := none }
def k7c1 : Code := { maxStack := 5, maxLocals := 2, code := jdk_42_method_3_code, exceptionTable := #[], attributes := #[] }
def k7m1 : Method := { name := "<init>", desc := "([C)V", sig := { parameters := [(.array .char)], returnType := none }, accessFlags := 1, code := some k7c1 }
def k7c2 : Code := { maxStack := 3, maxLocals := 2, code := jdk_42_method_53_code, exceptionTable := #[], attributes := #[] }
def k7m2 : Method := { name := "<init>", desc := "(Ljava/lang/StringBuilder;)V", sig := { parameters := [(.object "java/lang/StringBuilder")], returnType := none }, accessFlags := 1, code := some k7c2 }
def k7c3 : Code := { maxStack := 2, maxLocals := 1, code := jdk_42_method_54_code, exceptionTable := #[], attributes := #[] }
def k7m3 : Method := { name := "length", desc := "()I", sig := { parameters := [], returnType := some .int }, accessFlags := 1, code := some k7c3 }
def k7c4 : Code := { maxStack := 2, maxLocals := 2, code := jdk_42_method_56_code, exceptionTable := #[], attributes := #[] }
def k7m4 : Method := { name := "charAt", desc := "(I)C", sig := { parameters := [.int], returnType := some .char }, accessFlags := 1, code := some k7c4 }
def k7c5 : Code := { maxStack := 2, maxLocals := 3, code := jdk_42_method_66_code, exceptionTable := #[], attributes := #[] }
def k7m5 : Method := { name := "equals", desc := "(Ljava/lang/Object;)Z", sig := { parameters := [(.object "java/lang/Object")], returnType := some .boolean }, accessFlags := 1, code := some k7c5 }
def k7c6 : Code := { maxStack := 6, maxLocals := 8, code := jdk_42_method_73_code, exceptionTable := #[], attributes := #[] }
def k7m6 : Method := { name := "regionMatches", desc := "(ILjava/lang/String;II)Z", sig := { parameters := [.int, (.object "java/lang/String"), .int, .int], returnType := some .boolean }, accessFlags := 1, code := some k7c6 }
def k7c7 : Code := { maxStack := 5, maxLocals := 8, code := jdk_42_method_75_code, exceptionTable := #[], attributes := #[] }
def k7m7 : Method := { name := "startsWith", desc := "(Ljava/lang/String;I)Z", sig := { parameters := [(.object "java/lang/String"), .int], returnType := some .boolean }, accessFlags := 1, code := some k7c7 }
def k7c8 : Code := { maxStack := 3, maxLocals := 2, code := jdk_42_method_76_code, exceptionTable := #[], attributes := #[] }
def k7m8 : Method := { name := "startsWith", desc := "(Ljava/lang/String;)Z", sig := { parameters := [(.object "java/lang/String")], returnType := some .boolean }, accessFlags := 1, code := some k7c8 }
def k7c9 : Code := { maxStack := 4, maxLocals := 2, code := jdk_42_method_77_code, exceptionTable := #[], attributes := #[] }
def k7m9 : Method := { name := "endsWith", desc := "(Ljava/lang/String;)Z", sig := { parameters := [(.object "java/lang/String")], returnType := some .boolean }, accessFlags := 1, code := some k7c9 }
def k7c10 : Code := { maxStack := 3, maxLocals := 2, code := jdk_42_method_79_code, exceptionTable := #[], attributes := #[] }
def k7m10 : Method := { name := "indexOf", desc := "(I)I", sig := { parameters := [.int], returnType := some .int }, accessFlags := 1, code := some k7c10 }
def k7c11 : Code := { maxStack := 4, maxLocals := 3, code := jdk_42_method_80_code, exceptionTable := #[], attributes := #[] }
def k7m11 : Method := { name := "indexOf", desc := "(II)I", sig := { parameters := [.int, .int], returnType := some .int }, accessFlags := 1, code := some k7c11 }
def k7c12 : Code := { maxStack := 2, maxLocals := 3, code := jdk_42_method_84_code, exceptionTable := #[], attributes := #[] }
def k7m12 : Method := { name := "indexOf", desc := "(Ljava/lang/String;)I", sig := { parameters := [(.object "java/lang/String")], returnType := some .int }, accessFlags := 1, code := some k7c12 }
def k7c13 : Code := { maxStack := 3, maxLocals := 5, code := jdk_42_method_92_code, exceptionTable := #[], attributes := #[] }
def k7m13 : Method := { name := "substring", desc := "(II)Ljava/lang/String;", sig := { parameters := [.int, .int], returnType := some (.object "java/lang/String") }, accessFlags := 1, code := some k7c13 }
def k7c14 : Code := { maxStack := 2, maxLocals := 2, code := jdk_42_method_97_code, exceptionTable := #[], attributes := #[] }
def k7m14 : Method := { name := "contains", desc := "(Ljava/lang/CharSequence;)Z", sig := { parameters := [(.object "java/lang/CharSequence")], returnType := some .boolean }, accessFlags := 1, code := some k7c14 }
def k7c15 : Code := { maxStack := 1, maxLocals := 1, code := jdk_42_method_126_code, exceptionTable := #[], attributes := #[] }
def k7m15 : Method := { name := "toString", desc := "()Ljava/lang/String;", sig := { parameters := [], returnType := some (.object "java/lang/String") }, accessFlags := 1, code := some k7c15 }
def k7c16 : Code := { maxStack := 4, maxLocals := 6, code := jdk_42_method_149_code, exceptionTable := #[], attributes := #[] }
def k7m16 : Method := { name := "<init>", desc := "([CIILjava/lang/Void;)V", sig := { parameters := [(.array .char), .int, .int, (.object "java/lang/Void")], returnType := none }, accessFlags := 2, code := some k7c16 }
def k7c17 : Code := { maxStack := 5, maxLocals := 5, code := jdk_42_method_150_code, exceptionTable := #[], attributes := #[] }
def k7m17 : Method := { name := "<init>", desc := "(Ljava/lang/AbstractStringBuilder;Ljava/lang/Void;)V", sig := { parameters := [(.object "java/lang/AbstractStringBuilder"), (.object "java/lang/Void")], returnType := none }, accessFlags := 0, code := some k7c17 }
def k7c18 : Code := { maxStack := 2, maxLocals := 3, code := jdk_42_method_151_code, exceptionTable := #[], attributes := #[] }
def k7m18 : Method := { name := "<init>", desc := "([BB)V", sig := { parameters := [(.array .byte), .byte], returnType := none }, accessFlags := 0, code := some k7c18 }
def k7c19 : Code := { maxStack := 1, maxLocals := 1, code := jdk_42_method_152_code, exceptionTable := #[], attributes := #[] }
def k7m19 : Method := { name := "coder", desc := "()B", sig := { parameters := [], returnType := some .byte }, accessFlags := 0, code := some k7c19 }
def k7c20 : Code := { maxStack := 1, maxLocals := 1, code := jdk_42_method_154_code, exceptionTable := #[], attributes := #[] }
def k7m20 : Method := { name := "isLatin1", desc := "()Z", sig := { parameters := [], returnType := some .boolean }, accessFlags := 0, code := some k7c20 }
def k7c21 : Code := { maxStack := 3, maxLocals := 2, code := jdk_42_method_155_code, exceptionTable := #[], attributes := #[] }
def k7m21 : Method := { name := "checkIndex", desc := "(II)V", sig := { parameters := [.int, .int], returnType := none }, accessFlags := 8, code := some k7c21 }
def k7c22 : Code := { maxStack := 4, maxLocals := 3, code := jdk_42_method_158_code, exceptionTable := #[], attributes := #[] }
def k7m22 : Method := { name := "checkBoundsBeginEnd", desc := "(III)V", sig := { parameters := [.int, .int, .int], returnType := none }, accessFlags := 8, code := some k7c22 }
/-- java/lang/String -/
def k7 : Class := { plain "java/lang/String" (some 0) with
  accessFlags := 49
  interfaces := #[2, 3, 4, 5, 6]
  cf := some (fileOf pool7 10 #[.nestMembers #[1103]] #[{ accessFlags := 1, nameIndex := 5, descriptorIndex := 6, attributes := #[] }, { accessFlags := 1, nameIndex := 5, descriptorIndex := 1010, attributes := #[] }, { accessFlags := 1, nameIndex := 5, descriptorIndex := 1233, attributes := #[] }, { accessFlags := 1, nameIndex := 507, descriptorIndex := 334, attributes := #[] }, { accessFlags := 1, nameIndex := 497, descriptorIndex := 427, attributes := #[] }, { accessFlags := 1, nameIndex := 543, descriptorIndex := 573, attributes := #[] }, { accessFlags := 1, nameIndex := 584, descriptorIndex := 612, attributes := #[] }, { accessFlags := 1, nameIndex := 626, descriptorIndex := 627, attributes := #[] }, { accessFlags := 1, nameIndex := 626, descriptorIndex := 1257, attributes := #[] }, { accessFlags := 1, nameIndex := 1272, descriptorIndex := 1257, attributes := #[] }, { accessFlags := 1, nameIndex := 635, descriptorIndex := 765, attributes := #[] }, { accessFlags := 1, nameIndex := 635, descriptorIndex := 636, attributes := #[] }, { accessFlags := 1, nameIndex := 635, descriptorIndex := 713, attributes := #[] }, { accessFlags := 1, nameIndex := 683, descriptorIndex := 684, attributes := #[] }, { accessFlags := 1, nameIndex := 1291, descriptorIndex := 548, attributes := #[] }, { accessFlags := 1, nameIndex := 463, descriptorIndex := 464, attributes := #[] }, { accessFlags := 2, nameIndex := 5, descriptorIndex := 29, attributes := #[] }, { accessFlags := 0, nameIndex := 5, descriptorIndex := 491, attributes := #[] }, { accessFlags := 0, nameIndex := 5, descriptorIndex := 211, attributes := #[] }, { accessFlags := 0, nameIndex := 17, descriptorIndex := 337, attributes := #[] }, { accessFlags := 0, nameIndex := 494, descriptorIndex := 142, attributes := #[] }, { accessFlags := 8, nameIndex := 501, descriptorIndex := 391, attributes := #[] }, { accessFlags := 8, nameIndex := 523, descriptorIndex := 524, attributes := #[] }] 49 2 #[1106, 1108, 575, 1110, 1112] #[{ accessFlags := 18, nameIndex := 13, descriptorIndex := 14, attributes := #[] }, { accessFlags := 18, nameIndex := 17, descriptorIndex := 18, attributes := #[] }, { accessFlags := 2, nameIndex := 21, descriptorIndex := 22, attributes := #[] }, { accessFlags := 2, nameIndex := 25, descriptorIndex := 26, attributes := #[] }, { accessFlags := 26, nameIndex := 1116, descriptorIndex := 1117, attributes := #[] }, { accessFlags := 24, nameIndex := 40, descriptorIndex := 26, attributes := #[] }, { accessFlags := 26, nameIndex := 1101, descriptorIndex := 1102, attributes := #[] }, { accessFlags := 26, nameIndex := 1121, descriptorIndex := 1122, attributes := #[] }, { accessFlags := 25, nameIndex := 599, descriptorIndex := 600, attributes := #[] }, { accessFlags := 24, nameIndex := 1125, descriptorIndex := 18, attributes := #[] }, { accessFlags := 24, nameIndex := 1127, descriptorIndex := 18, attributes := #[] }])
  fields := #[{ name := "value", type := (.array .byte), accessFlags := 18, slot := 0, constantValue := 0 }, { name := "coder", type := .byte, accessFlags := 18, slot := 1, constantValue := 0 }, { name := "hash", type := .int, accessFlags := 2, slot := 2, constantValue := 0 }, { name := "hashIsZero", type := .boolean, accessFlags := 2, slot := 3, constantValue := 0 }, { name := "serialVersionUID", type := .long, accessFlags := 26, slot := 0, constantValue := 0 }, { name := "COMPACT_STRINGS", type := .boolean, accessFlags := 24, slot := 1, constantValue := 0 }, { name := "serialPersistentFields", type := (.array (.object "java/io/ObjectStreamField")), accessFlags := 26, slot := 2, constantValue := 0 }, { name := "REPL", type := .char, accessFlags := 26, slot := 3, constantValue := 0 }, { name := "CASE_INSENSITIVE_ORDER", type := (.object "java/util/Comparator"), accessFlags := 25, slot := 4, constantValue := 0 }, { name := "LATIN1", type := .byte, accessFlags := 24, slot := 5, constantValue := 0 }, { name := "UTF16", type := .byte, accessFlags := 24, slot := 6, constantValue := 0 }]
  methods := #[k7m0, k7m1, k7m2, k7m3, k7m4, k7m5, k7m6, k7m7, k7m8, k7m9, k7m10, k7m11, k7m12, k7m13, k7m14, k7m15, k7m16, k7m17, k7m18, k7m19, k7m20, k7m21, k7m22]
  instanceTypes := #[(.array .byte), .byte, .int, .boolean]
  staticTypes := #[.long, .boolean, (.array (.object "java/io/ObjectStreamField")), .char, (.object "java/util/Comparator"), .byte, .byte]
  resolved := Array.replicate 1451 none
  statics := some 0 }

def pool8 : Array CpInfo := pool [(1, .methodref 2 3), (0, .class_ 4), (0, .nameAndType 5 6), (0, u "java/lang/Object"), (0, u "<init>"), (0, u "()V"), (0, .class_ 8), (0, u "java/lang/Record")] 13

def k8c0 : Code := { maxStack := 1, maxLocals := 1, code := jdk_30_method_1_code, exceptionTable := #[], attributes := #[] }
def k8m0 : Method := { name := "<init>", desc := "()V", sig := { parameters := [], returnType := none }, accessFlags := 4, code := some k8c0 }
/-- java/lang/Record -/
def k8 : Class := { plain "java/lang/Record" (some 0) with
  accessFlags := 1057
  interfaces := #[]
  cf := some (fileOf pool8 7 #[] #[{ accessFlags := 4, nameIndex := 5, descriptorIndex := 6, attributes := #[] }] 1057 2 #[] #[])
  fields := #[]
  methods := #[k8m0]
  instanceTypes := #[]
  staticTypes := #[]
  resolved := Array.replicate 22 none
  statics := none }

def pool9 : Array CpInfo := pool [(1, .methodref 2 3), (0, .class_ 4), (0, .nameAndType 5 6), (0, u "java/lang/Record"), (0, u "<init>"), (0, u "()V"), (0, .methodref 8 9), (0, .class_ 10), (0, .nameAndType 11 12), (0, u "com/example/usage_throttle/usagethrottle/model/EndpointPattern"), (0, u "isPattern"), (0, u "(Ljava/lang/String;)Z"), (5, u "(Ljava/lang/String;)Ljava/lang/String;"), (2, u "(Ljava/lang/String;)V"), (0, .fieldref 8 23), (0, .nameAndType 24 25), (0, u "spelling"), (0, u "Ljava/lang/String;"), (11, .methodref 8 38), (0, .nameAndType 39 18), (0, u "normalise"), (0, .string 41), (0, u "*"), (0, .methodref 43 44), (0, .class_ 45), (0, .nameAndType 46 47), (0, u "java/lang/String"), (0, u "equals"), (0, u "(Ljava/lang/Object;)Z"), (0, .string 49), (0, u "/*"), (0, .methodref 43 51), (0, .nameAndType 52 12), (0, u "endsWith"), (0, .methodref 43 54), (0, .nameAndType 55 56), (0, u "length"), (0, u "()I"), (0, .methodref 43 58), (0, .nameAndType 59 60), (0, u "regionMatches"), (0, u "(ILjava/lang/String;II)Z"), (0, .methodref 43 62), (0, .nameAndType 63 64), (0, u "substring"), (0, u "(II)Ljava/lang/String;"), (0, .string 66), (0, u "/"), (0, .methodref 43 68), (0, .nameAndType 69 12), (0, u "startsWith"), (0, .methodref 43 71), (0, .nameAndType 72 73), (0, u "indexOf"), (0, u "(I)I"), (0, .string 75), (0, u "//"), (0, .methodref 43 77), (0, .nameAndType 78 79), (0, u "contains"), (0, u "(Ljava/lang/CharSequence;)Z"), (0, .class_ 81), (0, u "java/lang/StringBuilder"), (0, .methodref 80 83), (0, .nameAndType 5 84), (0, u "(I)V"), (0, .methodref 43 86), (0, .nameAndType 87 88), (0, u "charAt"), (0, u "(I)C"), (0, .methodref 80 90), (0, .nameAndType 91 92), (0, u "append"), (0, u "(C)Ljava/lang/StringBuilder;"), (0, .methodref 80 94), (0, .nameAndType 95 96), (0, u "toString"), (0, u "()Ljava/lang/String;"), (12, u "EVERY"), (0, u "Lcom/example/usage_throttle/usagethrottle/model/EndpointPattern;"), (0, u "EVERY_SPELLING"), (1, u "BELOW"), (8, u "matches")] 28

def k9c0 : Code := { maxStack := 3, maxLocals := 2, code := prog_13_method_1_code, exceptionTable := #[], attributes := #[] }
def k9m0 : Method := { name := "<init>", desc := "(Ljava/lang/String;)V", sig := { parameters := [(.object "java/lang/String")], returnType := none }, accessFlags := 1, code := some k9c0 }
def k9c1 : Code := { maxStack := 6, maxLocals := 7, code := prog_13_method_3_code, exceptionTable := #[], attributes := #[] }
def k9m1 : Method := { name := "matches", desc := "(Ljava/lang/String;)Z", sig := { parameters := [(.object "java/lang/String")], returnType := some .boolean }, accessFlags := 1, code := some k9c1 }
def k9c2 : Code := { maxStack := 4, maxLocals := 2, code := prog_13_method_4_code, exceptionTable := #[], attributes := #[] }
def k9m2 : Method := { name := "isPattern", desc := "(Ljava/lang/String;)Z", sig := { parameters := [(.object "java/lang/String")], returnType := some .boolean }, accessFlags := 10, code := some k9c2 }
def k9c3 : Code := { maxStack := 3, maxLocals := 7, code := prog_13_method_5_code, exceptionTable := #[], attributes := #[] }
def k9m3 : Method := { name := "normalise", desc := "(Ljava/lang/String;)Ljava/lang/String;", sig := { parameters := [(.object "java/lang/String")], returnType := some (.object "java/lang/String") }, accessFlags := 10, code := some k9c3 }
/-- com/example/usage_throttle/usagethrottle/model/EndpointPattern -/
def k9 : Class := { plain "com/example/usage_throttle/usagethrottle/model/EndpointPattern" (some 8) with
  accessFlags := 49
  interfaces := #[]
  cf := some (fileOf pool9 8 #[] #[{ accessFlags := 1, nameIndex := 5, descriptorIndex := 21, attributes := #[] }, { accessFlags := 1, nameIndex := 122, descriptorIndex := 12, attributes := #[] }, { accessFlags := 10, nameIndex := 11, descriptorIndex := 12, attributes := #[] }, { accessFlags := 10, nameIndex := 39, descriptorIndex := 18, attributes := #[] }] 49 2 #[] #[{ accessFlags := 18, nameIndex := 24, descriptorIndex := 25, attributes := #[] }, { accessFlags := 26, nameIndex := 111, descriptorIndex := 25, attributes := #[] }, { accessFlags := 26, nameIndex := 113, descriptorIndex := 25, attributes := #[] }, { accessFlags := 25, nameIndex := 109, descriptorIndex := 110, attributes := #[] }])
  fields := #[{ name := "spelling", type := (.object "java/lang/String"), accessFlags := 18, slot := 0, constantValue := 0 }, { name := "EVERY_SPELLING", type := (.object "java/lang/String"), accessFlags := 26, slot := 0, constantValue := 0 }, { name := "BELOW", type := (.object "java/lang/String"), accessFlags := 26, slot := 1, constantValue := 0 }, { name := "EVERY", type := (.object "com/example/usage_throttle/usagethrottle/model/EndpointPattern"), accessFlags := 25, slot := 2, constantValue := 0 }]
  methods := #[k9m0, k9m1, k9m2, k9m3]
  instanceTypes := #[(.object "java/lang/String")]
  staticTypes := #[(.object "java/lang/String"), (.object "java/lang/String"), (.object "com/example/usage_throttle/usagethrottle/model/EndpointPattern")]
  resolved := Array.replicate 151 none
  statics := none }

def pool10 : Array CpInfo := pool [(1, .class_ 2), (0, u "java/lang/String"), (1, .class_ 6), (1, u "java/lang/Object"), (0, u "<init>"), (0, u "()V"), (0, .methodref 1 10), (0, .nameAndType 11 12), (0, u "checkIndex"), (0, u "(II)V"), (1, .class_ 16), (1, u "java/lang/StringLatin1"), (21, .methodref 39 40), (0, .class_ 41), (0, .nameAndType 42 43), (0, u "java/lang/Math"), (0, u "min"), (0, u "(II)I"), (9, u "([BI)C"), (34, .methodref 14 89), (0, .nameAndType 90 91), (0, u "canEncode"), (0, u "(I)Z"), (0, .methodref 39 93), (0, .nameAndType 94 43), (0, u "max"), (0, .methodref 14 96), (0, .nameAndType 97 98), (0, u "indexOfChar"), (0, u "([BIII)I"), (0, .methodref 14 100), (0, .nameAndType 101 102), (0, u "indexOf"), (0, u "([BI[BII)I"), (2, u "(C)Z"), (6, .methodref 1 113), (0, .nameAndType 7 114), (0, u "([BB)V"), (6, u "$assertionsDisabled"), (0, u "Z"), (8, .class_ 133), (1, u "java/util/Arrays"), (17, .string 152), (0, u ""), (43, u "newString"), (0, u "([BII)Ljava/lang/String;"), (23, .class_ 223), (1, u "java/lang/StringLatin1$LinesSpliterator"), (8, .methodref 131 233), (0, .nameAndType 234 235), (0, u "copyOfRange"), (0, u "([BII)[B"), (16, u "charAt"), (28, u "equals"), (0, u "([B[B)Z"), (4, u "([B[B)I"), (102, .class_ 391), (0, u "java/lang/StringLatin1$CharsSpliterator")] 3

def k10m0 : Method := { name := "<init>", desc := "()V", sig := { parameters := [], returnType := none }, accessFlags := 0, code := none }
def k10c1 : Code := { maxStack := 2, maxLocals := 2, code := jdk_43_method_2_code, exceptionTable := #[], attributes := #[] }
def k10m1 : Method := { name := "charAt", desc := "([BI)C", sig := { parameters := [(.array .byte), .int], returnType := some .char }, accessFlags := 9, code := some k10c1 }
def k10c2 : Code := { maxStack := 2, maxLocals := 1, code := jdk_43_method_3_code, exceptionTable := #[], attributes := #[] }
def k10m2 : Method := { name := "canEncode", desc := "(C)Z", sig := { parameters := [.char], returnType := some .boolean }, accessFlags := 9, code := some k10c2 }
def k10c3 : Code := { maxStack := 2, maxLocals := 1, code := jdk_43_method_4_code, exceptionTable := #[], attributes := #[] }
def k10m3 : Method := { name := "canEncode", desc := "(I)Z", sig := { parameters := [.int], returnType := some .boolean }, accessFlags := 9, code := some k10c3 }
def k10c4 : Code := { maxStack := 3, maxLocals := 3, code := jdk_43_method_13_code, exceptionTable := #[], attributes := #[] }
def k10m4 : Method := { name := "equals", desc := "([B[B)Z", sig := { parameters := [(.array .byte), (.array .byte)], returnType := some .boolean }, accessFlags := 9, code := some k10c4 }
def k10c5 : Code := { maxStack := 4, maxLocals := 4, code := jdk_43_method_22_code, exceptionTable := #[], attributes := #[] }
def k10m5 : Method := { name := "indexOf", desc := "([BIII)I", sig := { parameters := [(.array .byte), .int, .int, .int], returnType := some .int }, accessFlags := 9, code := some k10c5 }
def k10c6 : Code := { maxStack := 2, maxLocals := 6, code := jdk_43_method_23_code, exceptionTable := #[], attributes := #[] }
def k10m6 : Method := { name := "indexOfChar", desc := "([BIII)I", sig := { parameters := [(.array .byte), .int, .int, .int], returnType := some .int }, accessFlags := 10, code := some k10c6 }
def k10c7 : Code := { maxStack := 5, maxLocals := 2, code := jdk_43_method_24_code, exceptionTable := #[], attributes := #[] }
def k10m7 : Method := { name := "indexOf", desc := "([B[B)I", sig := { parameters := [(.array .byte), (.array .byte)], returnType := some .int }, accessFlags := 9, code := some k10c7 }
def k10c8 : Code := { maxStack := 3, maxLocals := 11, code := jdk_43_method_25_code, exceptionTable := #[], attributes := #[] }
def k10m8 : Method := { name := "indexOf", desc := "([BI[BII)I", sig := { parameters := [(.array .byte), .int, (.array .byte), .int, .int], returnType := some .int }, accessFlags := 9, code := some k10c8 }
def k10c9 : Code := { maxStack := 6, maxLocals := 3, code := jdk_43_method_47_code, exceptionTable := #[], attributes := #[] }
def k10m9 : Method := { name := "newString", desc := "([BII)Ljava/lang/String;", sig := { parameters := [(.array .byte), .int, .int], returnType := some (.object "java/lang/String") }, accessFlags := 9, code := some k10c9 }
/-- java/lang/StringLatin1 -/
def k10 : Class := { plain "java/lang/StringLatin1" (some 0) with
  accessFlags := 48
  interfaces := #[]
  cf := some (fileOf pool10 14 #[.nestMembers #[390, 221]] #[{ accessFlags := 0, nameIndex := 7, descriptorIndex := 8, attributes := #[] }, { accessFlags := 9, nameIndex := 252, descriptorIndex := 53, attributes := #[] }, { accessFlags := 9, nameIndex := 90, descriptorIndex := 105, attributes := #[] }, { accessFlags := 9, nameIndex := 90, descriptorIndex := 91, attributes := #[] }, { accessFlags := 9, nameIndex := 281, descriptorIndex := 282, attributes := #[] }, { accessFlags := 9, nameIndex := 101, descriptorIndex := 98, attributes := #[] }, { accessFlags := 10, nameIndex := 97, descriptorIndex := 98, attributes := #[] }, { accessFlags := 9, nameIndex := 101, descriptorIndex := 287, attributes := #[] }, { accessFlags := 9, nameIndex := 101, descriptorIndex := 102, attributes := #[] }, { accessFlags := 9, nameIndex := 196, descriptorIndex := 197, attributes := #[] }] 48 4 #[] #[{ accessFlags := 4120, nameIndex := 121, descriptorIndex := 122, attributes := #[] }])
  fields := #[{ name := "$assertionsDisabled", type := .boolean, accessFlags := 4120, slot := 0, constantValue := 0 }]
  methods := #[k10m0, k10m1, k10m2, k10m3, k10m4, k10m5, k10m6, k10m7, k10m8, k10m9]
  instanceTypes := #[]
  staticTypes := #[.boolean]
  resolved := Array.replicate 395 none
  statics := none }

def pool11 : Array CpInfo := pool [(1, .class_ 2), (0, u "java/lang/Math"), (1, .class_ 6), (1, u "java/lang/Object"), (0, u "<init>"), (0, u "()V"), (89, .class_ 100), (1, u "java/lang/Math$RandomNumberGeneratorHolder"), (71, u "negativeZeroFloatBits"), (0, u "J"), (2, u "negativeZeroDoubleBits"), (21, u "max"), (2, u "min"), (43, u "$assertionsDisabled"), (0, u "Z"), (88, u "(II)I"), (2, u "twoToTheDoubleScaleDown"), (0, u "D"), (4, u "twoToTheDoubleScaleUp"), (9, u "E"), (3, u "PI"), (2, u "TAU"), (2, u "DEGREES_TO_RADIANS"), (0, u "RADIANS_TO_DEGREES")] 94

def k11m0 : Method := { name := "<init>", desc := "()V", sig := { parameters := [], returnType := none }, accessFlags := 2, code := none }
def k11c1 : Code := { maxStack := 2, maxLocals := 2, code := jdk_29_method_65_code, exceptionTable := #[], attributes := #[] }
def k11m1 : Method := { name := "max", desc := "(II)I", sig := { parameters := [.int, .int], returnType := some .int }, accessFlags := 9, code := some k11c1 }
def k11c2 : Code := { maxStack := 2, maxLocals := 2, code := jdk_29_method_69_code, exceptionTable := #[], attributes := #[] }
def k11m2 : Method := { name := "min", desc := "(II)I", sig := { parameters := [.int, .int], returnType := some .int }, accessFlags := 9, code := some k11c2 }
/-- java/lang/Math -/
def k11 : Class := { plain "java/lang/Math" (some 0) with
  accessFlags := 49
  interfaces := #[]
  cf := some (fileOf pool11 1 #[.nestMembers #[98]] #[{ accessFlags := 2, nameIndex := 7, descriptorIndex := 8, attributes := #[] }, { accessFlags := 9, nameIndex := 198, descriptorIndex := 335, attributes := #[] }, { accessFlags := 9, nameIndex := 201, descriptorIndex := 335, attributes := #[] }] 49 4 #[] #[{ accessFlags := 25, nameIndex := 354, descriptorIndex := 339, attributes := #[] }, { accessFlags := 25, nameIndex := 358, descriptorIndex := 339, attributes := #[] }, { accessFlags := 25, nameIndex := 361, descriptorIndex := 339, attributes := #[] }, { accessFlags := 26, nameIndex := 364, descriptorIndex := 339, attributes := #[] }, { accessFlags := 26, nameIndex := 365, descriptorIndex := 339, attributes := #[] }, { accessFlags := 26, nameIndex := 172, descriptorIndex := 173, attributes := #[] }, { accessFlags := 26, nameIndex := 176, descriptorIndex := 173, attributes := #[] }, { accessFlags := 8, nameIndex := 344, descriptorIndex := 339, attributes := #[] }, { accessFlags := 8, nameIndex := 338, descriptorIndex := 339, attributes := #[] }, { accessFlags := 4120, nameIndex := 245, descriptorIndex := 246, attributes := #[] }])
  fields := #[{ name := "E", type := .double, accessFlags := 25, slot := 0, constantValue := 0 }, { name := "PI", type := .double, accessFlags := 25, slot := 1, constantValue := 0 }, { name := "TAU", type := .double, accessFlags := 25, slot := 2, constantValue := 0 }, { name := "DEGREES_TO_RADIANS", type := .double, accessFlags := 26, slot := 3, constantValue := 0 }, { name := "RADIANS_TO_DEGREES", type := .double, accessFlags := 26, slot := 4, constantValue := 0 }, { name := "negativeZeroFloatBits", type := .long, accessFlags := 26, slot := 5, constantValue := 0 }, { name := "negativeZeroDoubleBits", type := .long, accessFlags := 26, slot := 6, constantValue := 0 }, { name := "twoToTheDoubleScaleUp", type := .double, accessFlags := 8, slot := 7, constantValue := 0 }, { name := "twoToTheDoubleScaleDown", type := .double, accessFlags := 8, slot := 8, constantValue := 0 }, { name := "$assertionsDisabled", type := .boolean, accessFlags := 4120, slot := 9, constantValue := 0 }]
  methods := #[k11m0, k11m1, k11m2]
  instanceTypes := #[]
  staticTypes := #[.double, .double, .double, .double, .double, .long, .long, .double, .double, .boolean]
  resolved := Array.replicate 460 none
  statics := none }

def pool12 : Array CpInfo := pool [(6, .class_ 8), (1, u "java/lang/Object"), (0, u "<init>"), (0, u "()V"), (1, .class_ 14), (1, u "java/lang/StringUTF16"), (31, u "$assertionsDisabled"), (0, u "Z"), (13, u "HI_BYTE_SHIFT"), (0, u "I"), (2, u "LO_BYTE_SHIFT"), (49, .methodref 12 116), (0, .nameAndType 117 118), (0, u "compress"), (0, u "([CI[BII)I"), (3, u "([CII)[B"), (138, u "coderFromArrayLen"), (0, u "([BI)B"), (106, .class_ 371), (1, u "java/lang/StringUTF16$LinesSpliterator"), (58, u "MAX_LENGTH"), (196, .class_ 628), (0, u "java/lang/StringUTF16$CodePointsSpliterator"), (0, .class_ 630), (0, u "java/lang/StringUTF16$CharsSpliterator")] 4

def k12m0 : Method := { name := "<init>", desc := "()V", sig := { parameters := [], returnType := none }, accessFlags := 0, code := none }
def k12c1 : Code := { maxStack := 2, maxLocals := 2, code := jdk_52_method_15_code, exceptionTable := #[], attributes := #[] }
def k12m1 : Method := { name := "coderFromArrayLen", desc := "([BI)B", sig := { parameters := [(.array .byte), .int], returnType := some .byte }, accessFlags := 8, code := some k12c1 }
def k12c2 : Code := { maxStack := 5, maxLocals := 6, code := jdk_52_method_16_code, exceptionTable := #[], attributes := #[] }
def k12m2 : Method := { name := "compress", desc := "([CII)[B", sig := { parameters := [(.array .char), .int, .int], returnType := some (.array .byte) }, accessFlags := 9, code := some k12c2 }
def k12c3 : Code := { maxStack := 3, maxLocals := 7, code := jdk_52_method_21_code, exceptionTable := #[], attributes := #[] }
def k12m3 : Method := { name := "compress", desc := "([CI[BII)I", sig := { parameters := [(.array .char), .int, (.array .byte), .int, .int], returnType := some .int }, accessFlags := 9, code := some k12c3 }
/-- java/lang/StringUTF16 -/
def k12 : Class := { plain "java/lang/StringUTF16" (some 0) with
  accessFlags := 48
  interfaces := #[]
  cf := some (fileOf pool12 12 #[.nestMembers #[627, 629, 369]] #[{ accessFlags := 0, nameIndex := 9, descriptorIndex := 10, attributes := #[] }, { accessFlags := 8, nameIndex := 261, descriptorIndex := 262, attributes := #[] }, { accessFlags := 9, nameIndex := 117, descriptorIndex := 122, attributes := #[] }, { accessFlags := 9, nameIndex := 117, descriptorIndex := 118, attributes := #[] }] 48 6 #[] #[{ accessFlags := 26, nameIndex := 61, descriptorIndex := 62, attributes := #[] }, { accessFlags := 26, nameIndex := 65, descriptorIndex := 62, attributes := #[] }, { accessFlags := 24, nameIndex := 430, descriptorIndex := 62, attributes := #[] }, { accessFlags := 4120, nameIndex := 46, descriptorIndex := 47, attributes := #[] }])
  fields := #[{ name := "HI_BYTE_SHIFT", type := .int, accessFlags := 26, slot := 0, constantValue := 0 }, { name := "LO_BYTE_SHIFT", type := .int, accessFlags := 26, slot := 1, constantValue := 0 }, { name := "MAX_LENGTH", type := .int, accessFlags := 24, slot := 2, constantValue := 0 }, { name := "$assertionsDisabled", type := .boolean, accessFlags := 4120, slot := 3, constantValue := 0 }]
  methods := #[k12m0, k12m1, k12m2, k12m3]
  instanceTypes := #[]
  staticTypes := #[.int, .int, .int, .boolean]
  resolved := Array.replicate 635 none
  statics := none }

def pool13 : Array CpInfo := pool [(9, u "<init>"), (6, .class_ 18), (1, u "java/lang/Object"), (0, u "()V"), (1, .class_ 23), (1, u "jdk/internal/util/ArraysSupport"), (0, u "LOG2_ARRAY_LONG_INDEX_SCALE"), (0, u "I"), (2, u "U"), (0, u "Ljdk/internal/misc/Unsafe;"), (8, u "BIG_ENDIAN"), (0, u "Z"), (8, u "LOG2_BYTE_BIT_SIZE"), (4, u "LOG2_ARRAY_INT_INDEX_SCALE"), (54, u "JLA"), (0, u "Ljdk/internal/access/JavaLangAccess;"), (11, u "LOG2_ARRAY_BOOLEAN_INDEX_SCALE"), (9, u "LOG2_ARRAY_BYTE_INDEX_SCALE"), (5, u "LOG2_ARRAY_CHAR_INDEX_SCALE"), (5, u "LOG2_ARRAY_SHORT_INDEX_SCALE"), (5, u "mismatch"), (12, u "LOG2_ARRAY_FLOAT_INDEX_SCALE"), (24, u "LOG2_ARRAY_DOUBLE_INDEX_SCALE"), (89, u "T_BOOLEAN"), (2, u "T_CHAR"), (1, u "T_FLOAT"), (1, u "T_DOUBLE"), (1, u "T_BYTE"), (1, u "T_SHORT"), (1, u "T_INT"), (1, u "T_LONG"), (1, u "SOFT_MAX_ARRAY_LENGTH"), (42, u "([BI[BII)I")] 40

def k13m0 : Method := { name := "<init>", desc := "()V", sig := { parameters := [], returnType := none }, accessFlags := 2, code := none }
def k13c1 : Code := { maxStack := 8, maxLocals := 8, code := jdk_48_method_14_code, exceptionTable := #[], attributes := #[] }
def k13m1 : Method := { name := "mismatch", desc := "([BI[BII)I", sig := { parameters := [(.array .byte), .int, (.array .byte), .int, .int], returnType := some .int }, accessFlags := 9, code := some k13c1 }
/-- jdk/internal/util/ArraysSupport -/
def k13 : Class := { plain "jdk/internal/util/ArraysSupport" (some 0) with
  accessFlags := 33
  interfaces := #[]
  cf := some (fileOf pool13 21 #[] #[{ accessFlags := 2, nameIndex := 9, descriptorIndex := 19, attributes := #[] }, { accessFlags := 9, nameIndex := 149, descriptorIndex := 337, attributes := #[] }] 33 16 #[] #[{ accessFlags := 24, nameIndex := 28, descriptorIndex := 29, attributes := #[] }, { accessFlags := 26, nameIndex := 38, descriptorIndex := 39, attributes := #[] }, { accessFlags := 25, nameIndex := 121, descriptorIndex := 25, attributes := #[] }, { accessFlags := 25, nameIndex := 131, descriptorIndex := 25, attributes := #[] }, { accessFlags := 25, nameIndex := 137, descriptorIndex := 25, attributes := #[] }, { accessFlags := 25, nameIndex := 143, descriptorIndex := 25, attributes := #[] }, { accessFlags := 25, nameIndex := 53, descriptorIndex := 25, attributes := #[] }, { accessFlags := 25, nameIndex := 24, descriptorIndex := 25, attributes := #[] }, { accessFlags := 25, nameIndex := 162, descriptorIndex := 25, attributes := #[] }, { accessFlags := 25, nameIndex := 187, descriptorIndex := 25, attributes := #[] }, { accessFlags := 26, nameIndex := 48, descriptorIndex := 25, attributes := #[] }, { accessFlags := 25, nameIndex := 277, descriptorIndex := 25, attributes := #[] }, { accessFlags := 25, nameIndex := 280, descriptorIndex := 25, attributes := #[] }, { accessFlags := 25, nameIndex := 282, descriptorIndex := 25, attributes := #[] }, { accessFlags := 25, nameIndex := 284, descriptorIndex := 25, attributes := #[] }, { accessFlags := 25, nameIndex := 286, descriptorIndex := 25, attributes := #[] }, { accessFlags := 25, nameIndex := 288, descriptorIndex := 25, attributes := #[] }, { accessFlags := 25, nameIndex := 290, descriptorIndex := 25, attributes := #[] }, { accessFlags := 25, nameIndex := 292, descriptorIndex := 25, attributes := #[] }, { accessFlags := 26, nameIndex := 108, descriptorIndex := 109, attributes := #[] }, { accessFlags := 25, nameIndex := 294, descriptorIndex := 25, attributes := #[] }])
  fields := #[{ name := "U", type := (.object "jdk/internal/misc/Unsafe"), accessFlags := 24, slot := 0, constantValue := 0 }, { name := "BIG_ENDIAN", type := .boolean, accessFlags := 26, slot := 1, constantValue := 0 }, { name := "LOG2_ARRAY_BOOLEAN_INDEX_SCALE", type := .int, accessFlags := 25, slot := 2, constantValue := 0 }, { name := "LOG2_ARRAY_BYTE_INDEX_SCALE", type := .int, accessFlags := 25, slot := 3, constantValue := 0 }, { name := "LOG2_ARRAY_CHAR_INDEX_SCALE", type := .int, accessFlags := 25, slot := 4, constantValue := 0 }, { name := "LOG2_ARRAY_SHORT_INDEX_SCALE", type := .int, accessFlags := 25, slot := 5, constantValue := 0 }, { name := "LOG2_ARRAY_INT_INDEX_SCALE", type := .int, accessFlags := 25, slot := 6, constantValue := 0 }, { name := "LOG2_ARRAY_LONG_INDEX_SCALE", type := .int, accessFlags := 25, slot := 7, constantValue := 0 }, { name := "LOG2_ARRAY_FLOAT_INDEX_SCALE", type := .int, accessFlags := 25, slot := 8, constantValue := 0 }, { name := "LOG2_ARRAY_DOUBLE_INDEX_SCALE", type := .int, accessFlags := 25, slot := 9, constantValue := 0 }, { name := "LOG2_BYTE_BIT_SIZE", type := .int, accessFlags := 26, slot := 10, constantValue := 0 }, { name := "T_BOOLEAN", type := .int, accessFlags := 25, slot := 11, constantValue := 0 }, { name := "T_CHAR", type := .int, accessFlags := 25, slot := 12, constantValue := 0 }, { name := "T_FLOAT", type := .int, accessFlags := 25, slot := 13, constantValue := 0 }, { name := "T_DOUBLE", type := .int, accessFlags := 25, slot := 14, constantValue := 0 }, { name := "T_BYTE", type := .int, accessFlags := 25, slot := 15, constantValue := 0 }, { name := "T_SHORT", type := .int, accessFlags := 25, slot := 16, constantValue := 0 }, { name := "T_INT", type := .int, accessFlags := 25, slot := 17, constantValue := 0 }, { name := "T_LONG", type := .int, accessFlags := 25, slot := 18, constantValue := 0 }, { name := "JLA", type := (.object "jdk/internal/access/JavaLangAccess"), accessFlags := 26, slot := 19, constantValue := 0 }, { name := "SOFT_MAX_ARRAY_LENGTH", type := .int, accessFlags := 25, slot := 20, constantValue := 0 }]
  methods := #[k13m0, k13m1]
  instanceTypes := #[]
  staticTypes := #[(.object "jdk/internal/misc/Unsafe"), .boolean, .int, .int, .int, .int, .int, .int, .int, .int, .int, .int, .int, .int, .int, .int, .int, .int, .int, (.object "jdk/internal/access/JavaLangAccess"), .int]
  resolved := Array.replicate 378 none
  statics := none }

def pool14 : Array CpInfo := pool [(2, .class_ 4), (1, u "java/lang/Object"), (0, u "<init>"), (0, u "()V"), (17, .class_ 26), (1, u "jdk/internal/util/Preconditions"), (6, u "checkIndex"), (13, u "checkFromToIndex"), (7, .class_ 56), (0, u "jdk/internal/util/Preconditions$4"), (57, .class_ 115), (0, u "jdk/internal/util/Preconditions$1"), (7, u "SIOOBE_FORMATTER"), (0, u "Ljava/util/function/BiFunction;"), (0, .class_ 126), (0, u "jdk/internal/util/Preconditions$2"), (3, u "AIOOBE_FORMATTER"), (0, .class_ 132), (0, u "jdk/internal/util/Preconditions$3"), (3, u "IOOBE_FORMATTER"), (41, u "(IILjava/util/function/BiFunction;)I"), (4, u "(IIILjava/util/function/BiFunction;)I")] 10

def k14m0 : Method := { name := "<init>", desc := "()V", sig := { parameters := [], returnType := none }, accessFlags := 1, code := none }
def k14c1 : Code := { maxStack := 3, maxLocals := 3, code := jdk_41_method_11_code, exceptionTable := #[], attributes := #[] }
def k14m1 : Method := { name := "checkIndex", desc := "(IILjava/util/function/BiFunction;)I", sig := { parameters := [.int, .int, (.object "java/util/function/BiFunction")], returnType := some .int }, accessFlags := 9, code := some k14c1 }
def k14c2 : Code := { maxStack := 4, maxLocals := 4, code := jdk_41_method_12_code, exceptionTable := #[], attributes := #[] }
def k14m2 : Method := { name := "checkFromToIndex", desc := "(IIILjava/util/function/BiFunction;)I", sig := { parameters := [.int, .int, .int, (.object "java/util/function/BiFunction")], returnType := some .int }, accessFlags := 9, code := some k14c2 }
/-- jdk/internal/util/Preconditions -/
def k14 : Class := { plain "jdk/internal/util/Preconditions" (some 0) with
  accessFlags := 33
  interfaces := #[]
  cf := some (fileOf pool14 24 #[.nestMembers #[55, 131, 125, 114]] #[{ accessFlags := 1, nameIndex := 5, descriptorIndex := 6, attributes := #[] }, { accessFlags := 9, nameIndex := 33, descriptorIndex := 178, attributes := #[] }, { accessFlags := 9, nameIndex := 47, descriptorIndex := 183, attributes := #[] }] 33 2 #[] #[{ accessFlags := 25, nameIndex := 123, descriptorIndex := 124, attributes := #[] }, { accessFlags := 25, nameIndex := 130, descriptorIndex := 124, attributes := #[] }, { accessFlags := 25, nameIndex := 136, descriptorIndex := 124, attributes := #[] }])
  fields := #[{ name := "SIOOBE_FORMATTER", type := (.object "java/util/function/BiFunction"), accessFlags := 25, slot := 0, constantValue := 0 }, { name := "AIOOBE_FORMATTER", type := (.object "java/util/function/BiFunction"), accessFlags := 25, slot := 1, constantValue := 0 }, { name := "IOOBE_FORMATTER", type := (.object "java/util/function/BiFunction"), accessFlags := 25, slot := 2, constantValue := 0 }]
  methods := #[k14m0, k14m1, k14m2]
  instanceTypes := #[]
  staticTypes := #[(.object "java/util/function/BiFunction"), (.object "java/util/function/BiFunction"), (.object "java/util/function/BiFunction")]
  resolved := Array.replicate 194 none
  statics := some 1 }

def pool15 : Array CpInfo := pool [(2, .class_ 4), (1, u "java/lang/Object"), (0, u "<init>"), (0, u "()V"), (7, .class_ 16), (1, u "java/util/Arrays"), (57, .class_ 76), (1, u "java/util/Arrays$NaturalOrder"), (36, .class_ 115), (1, u "java/util/Arrays$LegacyMergeSort"), (1, u "Z"), (21, u "copyOfRange"), (10, .methodref 151 152), (0, .class_ 153), (0, .nameAndType 154 155), (0, u "java/lang/System"), (0, u "arraycopy"), (0, u "(Ljava/lang/Object;ILjava/lang/Object;II)V"), (148, .methodref 305 306), (0, .class_ 307), (0, .nameAndType 308 309), (0, u "java/lang/Math"), (0, u "min"), (0, u "(II)I"), (29, .methodref 14 340), (0, .nameAndType 341 342), (0, u "copyOfRangeByte"), (0, u "([BII)[B"), (0, .methodref 14 344), (0, .nameAndType 345 346), (0, u "checkLength"), (0, u "(II)V"), (28, .class_ 376), (0, u "java/util/Arrays$ArrayList"), (68, u "$assertionsDisabled"), (269, u "MIN_ARRAY_SORT_GRAN"), (0, u "I"), (2, u "INSERTIONSORT_THRESHOLD"), (255, .class_ 976), (0, u "java/util/Arrays$ArrayItr")] 52

def k15m0 : Method := { name := "<init>", desc := "()V", sig := { parameters := [], returnType := none }, accessFlags := 2, code := none }
def k15c1 : Code := { maxStack := 4, maxLocals := 2, code := jdk_65_method_131_code, exceptionTable := #[], attributes := #[] }
def k15m1 : Method := { name := "checkLength", desc := "(II)V", sig := { parameters := [.int, .int], returnType := none }, accessFlags := 10, code := some k15c1 }
def k15c2 : Code := { maxStack := 3, maxLocals := 3, code := jdk_65_method_132_code, exceptionTable := #[], attributes := #[] }
def k15m2 : Method := { name := "copyOfRange", desc := "([BII)[B", sig := { parameters := [(.array .byte), .int, .int], returnType := some (.array .byte) }, accessFlags := 9, code := some k15c2 }
def k15c3 : Code := { maxStack := 6, maxLocals := 5, code := jdk_65_method_133_code, exceptionTable := #[], attributes := #[] }
def k15m3 : Method := { name := "copyOfRangeByte", desc := "([BII)[B", sig := { parameters := [(.array .byte), .int, .int], returnType := some (.array .byte) }, accessFlags := 10, code := some k15c3 }
/-- java/util/Arrays -/
def k15 : Class := { plain "java/util/Arrays" (some 0) with
  accessFlags := 49
  interfaces := #[]
  cf := some (fileOf pool15 14 #[.nestMembers #[975, 375, 113, 74]] #[{ accessFlags := 2, nameIndex := 5, descriptorIndex := 6, attributes := #[] }, { accessFlags := 10, nameIndex := 345, descriptorIndex := 346, attributes := #[] }, { accessFlags := 9, nameIndex := 139, descriptorIndex := 342, attributes := #[] }, { accessFlags := 10, nameIndex := 341, descriptorIndex := 342, attributes := #[] }] 49 2 #[] #[{ accessFlags := 26, nameIndex := 715, descriptorIndex := 716, attributes := #[] }, { accessFlags := 26, nameIndex := 719, descriptorIndex := 716, attributes := #[] }, { accessFlags := 4120, nameIndex := 445, descriptorIndex := 117, attributes := #[] }])
  fields := #[{ name := "MIN_ARRAY_SORT_GRAN", type := .int, accessFlags := 26, slot := 0, constantValue := 0 }, { name := "INSERTIONSORT_THRESHOLD", type := .int, accessFlags := 26, slot := 1, constantValue := 0 }, { name := "$assertionsDisabled", type := .boolean, accessFlags := 4120, slot := 2, constantValue := 0 }]
  methods := #[k15m0, k15m1, k15m2, k15m3]
  instanceTypes := #[]
  staticTypes := #[.int, .int, .boolean]
  resolved := Array.replicate 1029 none
  statics := none }

def pool16 : Array CpInfo := pool [(2, .class_ 4), (1, u "java/lang/Object"), (0, u "<init>"), (0, u "()V"), (1, .class_ 10), (1, u "java/lang/System"), (0, u "allowSecurityManager"), (0, u "I"), (16, u "cons"), (0, u "Ljava/io/Console;"), (77, .class_ 110), (1, u "java/lang/System$CallersHolder"), (43, u "initialErrStream"), (0, u "Ljava/io/PrintStream;"), (19, u "security"), (0, u "Ljava/lang/SecurityManager;"), (31, .class_ 209), (0, u "java/lang/System$1"), (7, u "props"), (0, u "Ljava/util/Properties;"), (2, u "lineSeparator"), (0, u "Ljava/lang/String;"), (96, .class_ 321), (1, u "java/lang/System$LoggerFinder"), (5, .class_ 328), (0, u "java/lang/System$Logger"), (67, u "err"), (2, u "out"), (91, u "notSupportedJnuEncoding"), (15, u "in"), (17, u "initialIn"), (0, u "Ljava/io/InputStream;"), (35, u "bootLayer"), (0, u "Ljava/lang/ModuleLayer;"), (99, .class_ 664), (0, u "java/lang/System$2"), (9, u "NEVER"), (2, u "MAYBE"), (49, u "arraycopy"), (0, u "(Ljava/lang/Object;ILjava/lang/Object;II)V"), (72, .class_ 802), (0, u "java/lang/System$Logger$Level")] 31

def k16m0 : Method := { name := "<init>", desc := "()V", sig := { parameters := [], returnType := none }, accessFlags := 2, code := none }
def k16m1 : Method := { name := "arraycopy", desc := "(Ljava/lang/Object;ILjava/lang/Object;II)V", sig := { parameters := [(.object "java/lang/Object"), .int, (.object "java/lang/Object"), .int, .int], returnType := none }, accessFlags := 265, code := none }
/-- java/lang/System -/
def k16 : Class := { plain "java/lang/System" (some 0) with
  accessFlags := 49
  interfaces := #[]
  cf := some (fileOf pool16 8 #[.nestMembers #[319, 327, 801, 108, 663, 208]] #[{ accessFlags := 2, nameIndex := 5, descriptorIndex := 6, attributes := #[] }, { accessFlags := 265, nameIndex := 727, descriptorIndex := 728, attributes := #[] }] 49 2 #[] #[{ accessFlags := 25, nameIndex := 507, descriptorIndex := 526, attributes := #[] }, { accessFlags := 25, nameIndex := 399, descriptorIndex := 155, attributes := #[] }, { accessFlags := 25, nameIndex := 396, descriptorIndex := 155, attributes := #[] }, { accessFlags := 10, nameIndex := 525, descriptorIndex := 526, attributes := #[] }, { accessFlags := 26, nameIndex := 674, descriptorIndex := 12, attributes := #[] }, { accessFlags := 26, nameIndex := 677, descriptorIndex := 12, attributes := #[] }, { accessFlags := 10, nameIndex := 11, descriptorIndex := 12, attributes := #[] }, { accessFlags := 74, nameIndex := 175, descriptorIndex := 176, attributes := #[] }, { accessFlags := 10, nameIndex := 491, descriptorIndex := 222, attributes := #[] }, { accessFlags := 74, nameIndex := 29, descriptorIndex := 30, attributes := #[] }, { accessFlags := 74, nameIndex := 154, descriptorIndex := 155, attributes := #[] }, { accessFlags := 10, nameIndex := 217, descriptorIndex := 218, attributes := #[] }, { accessFlags := 10, nameIndex := 221, descriptorIndex := 222, attributes := #[] }, { accessFlags := 8, nameIndex := 562, descriptorIndex := 563, attributes := #[] }])
  fields := #[{ name := "in", type := (.object "java/io/InputStream"), accessFlags := 25, slot := 0, constantValue := 0 }, { name := "out", type := (.object "java/io/PrintStream"), accessFlags := 25, slot := 1, constantValue := 0 }, { name := "err", type := (.object "java/io/PrintStream"), accessFlags := 25, slot := 2, constantValue := 0 }, { name := "initialIn", type := (.object "java/io/InputStream"), accessFlags := 10, slot := 3, constantValue := 0 }, { name := "NEVER", type := .int, accessFlags := 26, slot := 4, constantValue := 0 }, { name := "MAYBE", type := .int, accessFlags := 26, slot := 5, constantValue := 0 }, { name := "allowSecurityManager", type := .int, accessFlags := 10, slot := 6, constantValue := 0 }, { name := "security", type := (.object "java/lang/SecurityManager"), accessFlags := 74, slot := 7, constantValue := 0 }, { name := "notSupportedJnuEncoding", type := (.object "java/lang/String"), accessFlags := 10, slot := 8, constantValue := 0 }, { name := "cons", type := (.object "java/io/Console"), accessFlags := 74, slot := 9, constantValue := 0 }, { name := "initialErrStream", type := (.object "java/io/PrintStream"), accessFlags := 74, slot := 10, constantValue := 0 }, { name := "props", type := (.object "java/util/Properties"), accessFlags := 10, slot := 11, constantValue := 0 }, { name := "lineSeparator", type := (.object "java/lang/String"), accessFlags := 10, slot := 12, constantValue := 0 }, { name := "bootLayer", type := (.object "java/lang/ModuleLayer"), accessFlags := 8, slot := 13, constantValue := 0 }]
  methods := #[k16m0, k16m1]
  instanceTypes := #[]
  staticTypes := #[(.object "java/io/InputStream"), (.object "java/io/PrintStream"), (.object "java/io/PrintStream"), (.object "java/io/InputStream"), .int, .int, .int, (.object "java/lang/SecurityManager"), (.object "java/lang/String"), (.object "java/io/Console"), (.object "java/io/PrintStream"), (.object "java/util/Properties"), (.object "java/lang/String"), (.object "java/lang/ModuleLayer")]
  resolved := Array.replicate 834 none
  statics := none }

def pool17 : Array CpInfo := pool [(1, .class_ 2), (0, u "java/lang/Appendable"), (0, .class_ 4), (0, u "java/lang/Object")] 9

/-- java/lang/Appendable -/
def k17 : Class := { plain "java/lang/Appendable" (some 0) with
  accessFlags := 1537
  interfaces := #[]
  cf := some (fileOf pool17 1 #[] #[] 1537 3 #[] #[])
  fields := #[]
  methods := #[]
  instanceTypes := #[]
  staticTypes := #[]
  resolved := Array.replicate 14 none
  statics := none }

def pool18 : Array CpInfo := pool [(1, .class_ 2), (0, u "java/lang/String"), (0, .methodref 4 5), (0, .class_ 6), (0, .nameAndType 7 8), (0, u "java/lang/Object"), (0, u "<init>"), (0, u "()V"), (1, .class_ 12), (1, u "java/lang/AbstractStringBuilder"), (0, u "EMPTYVALUE"), (0, u "[B"), (0, .fieldref 10 16), (0, .nameAndType 17 14), (0, u "value"), (0, .fieldref 1 19), (0, .nameAndType 20 21), (0, u "COMPACT_STRINGS"), (0, u "Z"), (0, .fieldref 10 23), (0, .nameAndType 24 25), (0, u "coder"), (0, u "B"), (8, u "length"), (0, u "()I"), (9, u "append"), (2, .class_ 49), (0, u "java/lang/CharSequence"), (25, u "maybeLatin1"), (3, .fieldref 10 80), (0, .nameAndType 81 82), (0, u "count"), (0, u "I"), (0, .methodref 10 84), (0, .nameAndType 85 86), (0, u "isLatin1"), (0, u "()Z"), (1, .class_ 90), (1, u "java/lang/StringLatin1"), (9, .methodref 10 101), (0, .nameAndType 102 103), (0, u "ensureCapacityInternal"), (0, u "(I)V"), (87, .methodref 88 192), (0, .nameAndType 193 194), (0, u "canEncode"), (0, u "(C)Z"), (97, u "(C)Ljava/lang/AbstractStringBuilder;"), (110, u "()[B"), (40, .class_ 445), (0, u "java/lang/Appendable"), (106, u "getValue")] 56

def k18m0 : Method := { name := "<init>", desc := "()V", sig := { parameters := [], returnType := none }, accessFlags := 0, code := none }
def k18c1 : Code := { maxStack := 2, maxLocals := 2, code := jdk_68_method_2_code, exceptionTable := #[], attributes := #[] }
def k18m1 : Method := { name := "<init>", desc := "(I)V", sig := { parameters := [.int], returnType := none }, accessFlags := 0, code := some k18c1 }
def k18c2 : Code := { maxStack := 1, maxLocals := 1, code := jdk_68_method_6_code, exceptionTable := #[], attributes := #[] }
def k18m2 : Method := { name := "length", desc := "()I", sig := { parameters := [], returnType := some .int }, accessFlags := 1, code := some k18c2 }
def k18c3 : Code := { maxStack := 4, maxLocals := 3, code := jdk_68_method_9_code, exceptionTable := #[], attributes := #[] }
def k18m3 : Method := { name := "ensureCapacityInternal", desc := "(I)V", sig := { parameters := [.int], returnType := none }, accessFlags := 2, code := some k18c3 }
def k18c4 : Code := { maxStack := 5, maxLocals := 2, code := jdk_68_method_31_code, exceptionTable := #[], attributes := #[] }
def k18m4 : Method := { name := "append", desc := "(C)Ljava/lang/AbstractStringBuilder;", sig := { parameters := [.char], returnType := some (.object "java/lang/AbstractStringBuilder") }, accessFlags := 1, code := some k18c4 }
def k18c5 : Code := { maxStack := 1, maxLocals := 1, code := jdk_68_method_64_code, exceptionTable := #[], attributes := #[] }
def k18m5 : Method := { name := "getValue", desc := "()[B", sig := { parameters := [], returnType := some (.array .byte) }, accessFlags := 16, code := some k18c5 }
def k18c6 : Code := { maxStack := 1, maxLocals := 1, code := jdk_68_method_68_code, exceptionTable := #[], attributes := #[] }
def k18m6 : Method := { name := "isLatin1", desc := "()Z", sig := { parameters := [], returnType := some .boolean }, accessFlags := 16, code := some k18c6 }
/-- java/lang/AbstractStringBuilder -/
def k18 : Class := { plain "java/lang/AbstractStringBuilder" (some 0) with
  accessFlags := 1056
  interfaces := #[17, 4]
  cf := some (fileOf pool18 10 #[] #[{ accessFlags := 0, nameIndex := 7, descriptorIndex := 8, attributes := #[] }, { accessFlags := 0, nameIndex := 7, descriptorIndex := 103, attributes := #[] }, { accessFlags := 1, nameIndex := 34, descriptorIndex := 35, attributes := #[] }, { accessFlags := 2, nameIndex := 102, descriptorIndex := 103, attributes := #[] }, { accessFlags := 1, nameIndex := 45, descriptorIndex := 292, attributes := #[] }, { accessFlags := 16, nameIndex := 552, descriptorIndex := 403, attributes := #[] }, { accessFlags := 16, nameIndex := 85, descriptorIndex := 86, attributes := #[] }] 1056 4 #[444, 48] #[{ accessFlags := 0, nameIndex := 17, descriptorIndex := 14, attributes := #[] }, { accessFlags := 0, nameIndex := 24, descriptorIndex := 25, attributes := #[] }, { accessFlags := 0, nameIndex := 75, descriptorIndex := 21, attributes := #[] }, { accessFlags := 0, nameIndex := 81, descriptorIndex := 82, attributes := #[] }, { accessFlags := 26, nameIndex := 13, descriptorIndex := 14, attributes := #[] }])
  fields := #[{ name := "value", type := (.array .byte), accessFlags := 0, slot := 0, constantValue := 0 }, { name := "coder", type := .byte, accessFlags := 0, slot := 1, constantValue := 0 }, { name := "maybeLatin1", type := .boolean, accessFlags := 0, slot := 2, constantValue := 0 }, { name := "count", type := .int, accessFlags := 0, slot := 3, constantValue := 0 }, { name := "EMPTYVALUE", type := (.array .byte), accessFlags := 26, slot := 0, constantValue := 0 }]
  methods := #[k18m0, k18m1, k18m2, k18m3, k18m4, k18m5, k18m6]
  instanceTypes := #[(.array .byte), .byte, .boolean, .int]
  staticTypes := #[(.array .byte)]
  resolved := Array.replicate 609 none
  statics := none }

def pool19 : Array CpInfo := pool [(1, .methodref 2 3), (0, .class_ 4), (0, .nameAndType 5 6), (0, u "java/lang/AbstractStringBuilder"), (0, u "<init>"), (0, u "(I)V"), (11, .class_ 20), (1, u "java/lang/String"), (3, .class_ 26), (1, u "java/lang/StringBuilder"), (0, u "append"), (22, .methodref 2 51), (0, .nameAndType 27 52), (0, u "(C)Ljava/lang/AbstractStringBuilder;"), (84, .methodref 18 138), (0, .nameAndType 5 139), (0, u "(Ljava/lang/StringBuilder;)V"), (5, u "()V"), (10, u "()I"), (129, u "(C)Ljava/lang/StringBuilder;"), (56, .methodref 2 344), (0, .nameAndType 345 156), (0, u "length"), (3, .class_ 350), (0, u "java/lang/Appendable"), (0, .class_ 352), (0, u "java/io/Serializable"), (0, .class_ 354), (0, u "java/lang/Comparable"), (0, .class_ 356), (0, u "java/lang/CharSequence"), (0, u "serialVersionUID"), (0, u "J"), (40, u "toString"), (0, u "()Ljava/lang/String;")] 21

def k19m0 : Method := { name := "<init>", desc := "()V", sig := { parameters := [], returnType := none }, accessFlags := 1, code := none }
def k19c1 : Code := { maxStack := 2, maxLocals := 2, code := jdk_67_method_2_code, exceptionTable := #[], attributes := #[] }
def k19m1 : Method := { name := "<init>", desc := "(I)V", sig := { parameters := [.int], returnType := none }, accessFlags := 1, code := some k19c1 }
def k19c2 : Code := { maxStack := 2, maxLocals := 2, code := jdk_67_method_14_code, exceptionTable := #[], attributes := #[] }
def k19m2 : Method := { name := "append", desc := "(C)Ljava/lang/StringBuilder;", sig := { parameters := [.char], returnType := some (.object "java/lang/StringBuilder") }, accessFlags := 1, code := some k19c2 }
def k19c3 : Code := { maxStack := 3, maxLocals := 1, code := jdk_67_method_42_code, exceptionTable := #[], attributes := #[] }
def k19m3 : Method := { name := "toString", desc := "()Ljava/lang/String;", sig := { parameters := [], returnType := some (.object "java/lang/String") }, accessFlags := 1, code := some k19c3 }
def k19c4 : Code := { maxStack := 1, maxLocals := 1, code := jdk_67_method_93_code, exceptionTable := #[], attributes := #[] }
def k19m4 : Method := { name := "length", desc := "()I", sig := { parameters := [], returnType := some .int }, accessFlags := 4161, code := some k19c4 }
/-- java/lang/StringBuilder -/
def k19 : Class := { plain "java/lang/StringBuilder" (some 18) with
  accessFlags := 49
  interfaces := #[17, 2, 3, 4]
  cf := some (fileOf pool19 24 #[] #[{ accessFlags := 1, nameIndex := 5, descriptorIndex := 145, attributes := #[] }, { accessFlags := 1, nameIndex := 5, descriptorIndex := 6, attributes := #[] }, { accessFlags := 1, nameIndex := 27, descriptorIndex := 286, attributes := #[] }, { accessFlags := 1, nameIndex := 399, descriptorIndex := 400, attributes := #[] }, { accessFlags := 4161, nameIndex := 345, descriptorIndex := 156, attributes := #[] }] 49 2 #[349, 351, 353, 355] #[{ accessFlags := 24, nameIndex := 357, descriptorIndex := 358, attributes := #[] }])
  fields := #[{ name := "serialVersionUID", type := .long, accessFlags := 24, slot := 0, constantValue := 0 }]
  methods := #[k19m0, k19m1, k19m2, k19m3, k19m4]
  instanceTypes := #[(.array .byte), .byte, .boolean, .int]
  staticTypes := #[.long]
  resolved := Array.replicate 422 none
  statics := none }

def pool20 : Array CpInfo := pool [(1, u "java/lang/Cloneable"), (0, .class_ 1), (0, u "java/lang/Object"), (0, .class_ 3)] 3

/-- java/lang/Cloneable -/
def k20 : Class := { plain "java/lang/Cloneable" (some 0) with
  accessFlags := 1537
  interfaces := #[]
  cf := some (fileOf pool20 2 #[] #[] 1537 4 #[] #[])
  fields := #[]
  methods := #[]
  instanceTypes := #[]
  staticTypes := #[]
  resolved := Array.replicate 8 none
  statics := none }

/-- the primitive byte -/
def k21 : Class := { plain "byte" none with kind := .primitive 'B', accessFlags := 0x411 }
/-- [B -/
def k22 : Class := { plain "[B" (some 0) with kind := .array 21 .byte, interfaces := #[20, 2], accessFlags := 1041 }

/-- the primitive char -/
def k23 : Class := { plain "char" none with kind := .primitive 'C', accessFlags := 0x411 }
/-- [C -/
def k24 : Class := { plain "[C" (some 0) with kind := .array 23 .char, interfaces := #[20, 2], accessFlags := 1041 }

/-- the primitive int -/
def k25 : Class := { plain "int" none with kind := .primitive 'I', accessFlags := 0x411 }
/-- [I -/
def k26 : Class := { plain "[I" (some 0) with kind := .array 25 .int, interfaces := #[20, 2], accessFlags := 1041 }

def heap : Heap := #[{ cls := 7, slots := #[.long 0, .int 1, .null, .int 0, .null, .int 0, .int 0], vm := .statics 7 },
  { cls := 14, slots := #[.null, .null, .null], vm := .statics 14 }]
def classes : Array Class := #[k0, k1, k2, k3, k4, k5, k6, k7, k8, k9, k10, k11, k12, k13, k14, k15, k16, k17, k18, k19, k20, k21, k22, k23, k24, k25, k26]
def interned : List (Array UInt16 × Addr) := []
def slotsUsed : Nat := 10
def theMethod : MethodId := ⟨1, 1⟩
def args0 : Array Value := #[.int 5, .int 25185, .long 5, .int 5]
def aboutOver (below : List Frame) : State where
  vm := { classes := classes, interned := interned.toArray }
  heap := heap
  slotsUsed := slotsUsed
  threads := #[{ frames := .invoking theMethod args0 :: below }]
def below0 : List Frame := [.native { method := ⟨0, 0⟩, args := #[] }]
def about1 : State := aboutOver below0
def p0 : Program := .bare "" "" ""
def e0 : Env := launch0.env 0 0 0
theorem w_frames : about1.frames = Frame.invoking theMethod args0 :: below0 := rfl
set_option maxRecDepth 65536 in
theorem w_args : argsFit about1.vm theMethod args0 = true := by decide +kernel
set_option maxRecDepth 65536 in
theorem w_heap : heapFits about1 = true := by decide +kernel
set_option maxRecDepth 65536 in
theorem w_runnable : about1.curStatus? = some .runnable := by decide +kernel
set_option maxRecDepth 65536 in
theorem w_alone : about1.alone = true := by decide +kernel
set_option maxRecDepth 65536 in
theorem w_named : about1.methodNamed? x = some theMethod := by decide +kernel
set_option maxRecDepth 65536 in
theorem w_hears : about1.hears theMethod below0 = true := by decide +kernel
set_option maxRecDepth 65536 in
theorem w_ripe : about1.ripe theMethod args0 below0 = true := by decide +kernel
theorem w_running : about1.status = .running := rfl
set_option maxRecDepth 65536 in
theorem w_room : about1.hasRoom e0.platform room_1 = true :=
  launch0.hasRoom_least _ room_1 (by decide +kernel) (by decide +kernel) (by decide +kernel) (by decide +kernel) (by decide +kernel) (by decide +kernel)
theorem allAtoms_all (ts : List Jvm.Cond) (a : Array Jvm.Value) (st : Jvm.State) : (allAtoms ts).before a st = ts.all (fun c => c.before a st) := by
  induction ts with
  | nil => rfl
  | cons c t ih =>
    show (Jvm.Cond.and c (allAtoms t)).before a st = _
    rw [Jvm.Cond.before_and, ih, List.all_cons]
def words1 : List Jvm.Cond := Jvm.Cond.code x code maxLocals ret :: tables_1
/-- a 'code' word, met by the world's own term for the bytes: nothing is compared byte by byte -/
theorem code_word {y : MethodName} {bytes : ByteArray} {mx : Nat} {rt : Option FieldType} {a : Array Value} {s : State} {m : MethodId} {meth : Method} {c : Code} (h1 : s.methodNamed? y = some m) (h2 : s.vm.method? m = some meth) (h3 : meth.code = some c) (h4 : c.code = bytes)
    (h5 : (c.maxLocals == mx && c.exceptionTable.isEmpty && decide (c.maxStack ≤ mostOperands) && decide (meth.sig.returnType = rt) && !meth.locks && decide (parseMethodDescriptor y.desc = some meth.sig)) = true) : (Jvm.Cond.code y bytes mx rt).before a s = true := by
  simp only [Bool.and_eq_true, beq_iff_eq, Bool.not_eq_true', decide_eq_true_eq] at h5
  obtain ⟨⟨⟨⟨⟨g1, g2⟩, g3⟩, g4⟩, g5⟩, g6⟩ := h5
  simp [Cond.before, Cond.holds, Cond.value, h1, h2, h3, h4, g1, g2, g3, g4, g5, g6]
def isCode : Jvm.Cond → Bool
  | .code _ _ _ _ => true
  | _ => false
theorem all_split {L : List Jvm.Cond} {P : Jvm.Cond → Bool} (h1 : L.all (fun c => isCode c || P c) = true) (h2 : ∀ c ∈ L.filter isCode, P c = true) : L.all P = true := by
  refine List.all_eq_true.mpr fun c hc => ?_
  have h := List.all_eq_true.mp h1 c hc
  rcases Bool.eq_false_or_eq_true (isCode c) with hi | hi
  · exact h2 c (List.mem_filter.mpr ⟨hc, hi⟩)
  · simpa [hi] using h
set_option maxRecDepth 65536 in
theorem w_c0 : (Jvm.Cond.code x code maxLocals ret).before args0 about1 = true := code_word (m := ⟨1, 1⟩) (meth := k1m1) (c := k1c1) (by decide +kernel) rfl rfl rfl (by decide +kernel)
set_option maxRecDepth 65536 in
theorem w_c1 : (Jvm.Cond.code ({ cls := "com/example/usage_throttle/usagethrottle/model/EndpointPatternMatchesPinLaw", name := "segChar", desc := "(I)C" } : Jvm.MethodName) method_3_code (2 : Nat) (Option.some Jvm.ClassFile.FieldType.char)).before args0 about1 = true := code_word (m := ⟨1, 2⟩) (meth := k1m2) (c := k1c2) (by decide +kernel) rfl rfl rfl (by decide +kernel)
set_option maxRecDepth 65536 in
theorem w_c2 : (Jvm.Cond.code ({ cls := "com/example/usage_throttle/usagethrottle/model/EndpointPatternMatchesPinLaw", name := "spell", desc := "(IIICC)Ljava/lang/String;" } : Jvm.MethodName) method_5_code (5 : Nat) (Option.some (Jvm.ClassFile.FieldType.object "java/lang/String"))).before args0 about1 = true := code_word (m := ⟨1, 4⟩) (meth := k1m4) (c := k1c4) (by decide +kernel) rfl rfl rfl (by decide +kernel)
set_option maxRecDepth 65536 in
theorem w_c3 : (Jvm.Cond.code ({ cls := "com/example/usage_throttle/usagethrottle/model/EndpointPatternMatchesPinLaw", name := "draw", desc := "(ICC)C" } : Jvm.MethodName) method_4_code (5 : Nat) (Option.some Jvm.ClassFile.FieldType.char)).before args0 about1 = true := code_word (m := ⟨1, 3⟩) (meth := k1m3) (c := k1c3) (by decide +kernel) rfl rfl rfl (by decide +kernel)
set_option maxRecDepth 65536 in
theorem w_c4 : (Jvm.Cond.code ({ cls := "com/example/usage_throttle/usagethrottle/model/EndpointPatternMatchesPinLaw", name := "text", desc := "([CI)Ljava/lang/String;" } : Jvm.MethodName) method_6_code (2 : Nat) (Option.some (Jvm.ClassFile.FieldType.object "java/lang/String"))).before args0 about1 = true := code_word (m := ⟨1, 5⟩) (meth := k1m5) (c := k1c5) (by decide +kernel) rfl rfl rfl (by decide +kernel)
set_option maxRecDepth 65536 in
theorem w_c5 : (Jvm.Cond.code ({ cls := "com/example/usage_throttle/usagethrottle/model/EndpointPattern", name := "<init>", desc := "(Ljava/lang/String;)V" } : Jvm.MethodName) prog_13_method_1_code (2 : Nat) (Option.none : Option Jvm.ClassFile.FieldType)).before args0 about1 = true := code_word (m := ⟨9, 0⟩) (meth := k9m0) (c := k9c0) (by decide +kernel) rfl rfl rfl (by decide +kernel)
set_option maxRecDepth 65536 in
theorem w_c6 : (Jvm.Cond.code ({ cls := "java/lang/Record", name := "<init>", desc := "()V" } : Jvm.MethodName) jdk_30_method_1_code (1 : Nat) (Option.none : Option Jvm.ClassFile.FieldType)).before args0 about1 = true := code_word (m := ⟨8, 0⟩) (meth := k8m0) (c := k8c0) (by decide +kernel) rfl rfl rfl (by decide +kernel)
set_option maxRecDepth 65536 in
theorem w_c7 : (Jvm.Cond.code ({ cls := "java/lang/Object", name := "<init>", desc := "()V" } : Jvm.MethodName) object_method_1_code (1 : Nat) (Option.none : Option Jvm.ClassFile.FieldType)).before args0 about1 = true := code_word (m := ⟨0, 0⟩) (meth := k0m0) (c := k0c0) (by decide +kernel) rfl rfl rfl (by decide +kernel)
set_option maxRecDepth 65536 in
theorem w_c8 : (Jvm.Cond.code ({ cls := "com/example/usage_throttle/usagethrottle/model/EndpointPattern", name := "isPattern", desc := "(Ljava/lang/String;)Z" } : Jvm.MethodName) prog_13_method_4_code (2 : Nat) (Option.some Jvm.ClassFile.FieldType.boolean)).before args0 about1 = true := code_word (m := ⟨9, 2⟩) (meth := k9m2) (c := k9c2) (by decide +kernel) rfl rfl rfl (by decide +kernel)
set_option maxRecDepth 65536 in
theorem w_c9 : (Jvm.Cond.code ({ cls := "java/lang/String", name := "endsWith", desc := "(Ljava/lang/String;)Z" } : Jvm.MethodName) jdk_42_method_77_code (2 : Nat) (Option.some Jvm.ClassFile.FieldType.boolean)).before args0 about1 = true := code_word (m := ⟨7, 9⟩) (meth := k7m9) (c := k7c9) (by decide +kernel) rfl rfl rfl (by decide +kernel)
set_option maxRecDepth 65536 in
theorem w_c10 : (Jvm.Cond.code ({ cls := "java/lang/String", name := "length", desc := "()I" } : Jvm.MethodName) jdk_42_method_54_code (1 : Nat) (Option.some Jvm.ClassFile.FieldType.int)).before args0 about1 = true := code_word (m := ⟨7, 3⟩) (meth := k7m3) (c := k7c3) (by decide +kernel) rfl rfl rfl (by decide +kernel)
set_option maxRecDepth 65536 in
theorem w_c11 : (Jvm.Cond.code ({ cls := "java/lang/String", name := "coder", desc := "()B" } : Jvm.MethodName) jdk_42_method_152_code (1 : Nat) (Option.some Jvm.ClassFile.FieldType.byte)).before args0 about1 = true := code_word (m := ⟨7, 19⟩) (meth := k7m19) (c := k7c19) (by decide +kernel) rfl rfl rfl (by decide +kernel)
set_option maxRecDepth 65536 in
theorem w_c12 : (Jvm.Cond.code ({ cls := "java/lang/String", name := "startsWith", desc := "(Ljava/lang/String;I)Z" } : Jvm.MethodName) jdk_42_method_75_code (8 : Nat) (Option.some Jvm.ClassFile.FieldType.boolean)).before args0 about1 = true := code_word (m := ⟨7, 7⟩) (meth := k7m7) (c := k7c7) (by decide +kernel) rfl rfl rfl (by decide +kernel)
set_option maxRecDepth 65536 in
theorem w_c13 : (Jvm.Cond.code ({ cls := "java/lang/String", name := "equals", desc := "(Ljava/lang/Object;)Z" } : Jvm.MethodName) jdk_42_method_66_code (3 : Nat) (Option.some Jvm.ClassFile.FieldType.boolean)).before args0 about1 = true := code_word (m := ⟨7, 5⟩) (meth := k7m5) (c := k7c5) (by decide +kernel) rfl rfl rfl (by decide +kernel)
set_option maxRecDepth 65536 in
theorem w_c14 : (Jvm.Cond.code ({ cls := "com/example/usage_throttle/usagethrottle/model/EndpointPattern", name := "matches", desc := "(Ljava/lang/String;)Z" } : Jvm.MethodName) prog_13_method_3_code (7 : Nat) (Option.some Jvm.ClassFile.FieldType.boolean)).before args0 about1 = true := code_word (m := ⟨9, 1⟩) (meth := k9m1) (c := k9c1) (by decide +kernel) rfl rfl rfl (by decide +kernel)
set_option maxRecDepth 65536 in
theorem w_c15 : (Jvm.Cond.code ({ cls := "com/example/usage_throttle/usagethrottle/model/EndpointPattern", name := "normalise", desc := "(Ljava/lang/String;)Ljava/lang/String;" } : Jvm.MethodName) prog_13_method_5_code (7 : Nat) (Option.some (Jvm.ClassFile.FieldType.object "java/lang/String"))).before args0 about1 = true := code_word (m := ⟨9, 3⟩) (meth := k9m3) (c := k9c3) (by decide +kernel) rfl rfl rfl (by decide +kernel)
set_option maxRecDepth 65536 in
theorem w_c16 : (Jvm.Cond.code ({ cls := "java/lang/String", name := "indexOf", desc := "(I)I" } : Jvm.MethodName) jdk_42_method_79_code (2 : Nat) (Option.some Jvm.ClassFile.FieldType.int)).before args0 about1 = true := code_word (m := ⟨7, 10⟩) (meth := k7m10) (c := k7c10) (by decide +kernel) rfl rfl rfl (by decide +kernel)
set_option maxRecDepth 65536 in
theorem w_c17 : (Jvm.Cond.code ({ cls := "java/lang/String", name := "indexOf", desc := "(II)I" } : Jvm.MethodName) jdk_42_method_80_code (3 : Nat) (Option.some Jvm.ClassFile.FieldType.int)).before args0 about1 = true := code_word (m := ⟨7, 11⟩) (meth := k7m11) (c := k7c11) (by decide +kernel) rfl rfl rfl (by decide +kernel)
set_option maxRecDepth 65536 in
theorem w_c18 : (Jvm.Cond.code ({ cls := "java/lang/String", name := "isLatin1", desc := "()Z" } : Jvm.MethodName) jdk_42_method_154_code (1 : Nat) (Option.some Jvm.ClassFile.FieldType.boolean)).before args0 about1 = true := code_word (m := ⟨7, 20⟩) (meth := k7m20) (c := k7c20) (by decide +kernel) rfl rfl rfl (by decide +kernel)
set_option maxRecDepth 65536 in
theorem w_c19 : (Jvm.Cond.code ({ cls := "java/lang/StringLatin1", name := "indexOf", desc := "([BIII)I" } : Jvm.MethodName) jdk_43_method_22_code (4 : Nat) (Option.some Jvm.ClassFile.FieldType.int)).before args0 about1 = true := code_word (m := ⟨10, 5⟩) (meth := k10m5) (c := k10c5) (by decide +kernel) rfl rfl rfl (by decide +kernel)
set_option maxRecDepth 65536 in
theorem w_c20 : (Jvm.Cond.code ({ cls := "java/lang/StringLatin1", name := "canEncode", desc := "(I)Z" } : Jvm.MethodName) jdk_43_method_4_code (1 : Nat) (Option.some Jvm.ClassFile.FieldType.boolean)).before args0 about1 = true := code_word (m := ⟨10, 3⟩) (meth := k10m3) (c := k10c3) (by decide +kernel) rfl rfl rfl (by decide +kernel)
set_option maxRecDepth 65536 in
theorem w_c21 : (Jvm.Cond.code ({ cls := "java/lang/Math", name := "max", desc := "(II)I" } : Jvm.MethodName) jdk_29_method_65_code (2 : Nat) (Option.some Jvm.ClassFile.FieldType.int)).before args0 about1 = true := code_word (m := ⟨11, 1⟩) (meth := k11m1) (c := k11c1) (by decide +kernel) rfl rfl rfl (by decide +kernel)
set_option maxRecDepth 65536 in
theorem w_c22 : (Jvm.Cond.code ({ cls := "java/lang/Math", name := "min", desc := "(II)I" } : Jvm.MethodName) jdk_29_method_69_code (2 : Nat) (Option.some Jvm.ClassFile.FieldType.int)).before args0 about1 = true := code_word (m := ⟨11, 2⟩) (meth := k11m2) (c := k11c2) (by decide +kernel) rfl rfl rfl (by decide +kernel)
set_option maxRecDepth 65536 in
theorem w_c23 : (Jvm.Cond.code ({ cls := "java/lang/String", name := "contains", desc := "(Ljava/lang/CharSequence;)Z" } : Jvm.MethodName) jdk_42_method_97_code (2 : Nat) (Option.some Jvm.ClassFile.FieldType.boolean)).before args0 about1 = true := code_word (m := ⟨7, 14⟩) (meth := k7m14) (c := k7c14) (by decide +kernel) rfl rfl rfl (by decide +kernel)
set_option maxRecDepth 65536 in
theorem w_c24 : (Jvm.Cond.code ({ cls := "java/lang/String", name := "toString", desc := "()Ljava/lang/String;" } : Jvm.MethodName) jdk_42_method_126_code (1 : Nat) (Option.some (Jvm.ClassFile.FieldType.object "java/lang/String"))).before args0 about1 = true := code_word (m := ⟨7, 15⟩) (meth := k7m15) (c := k7c15) (by decide +kernel) rfl rfl rfl (by decide +kernel)
set_option maxRecDepth 65536 in
theorem w_c25 : (Jvm.Cond.code ({ cls := "java/lang/String", name := "indexOf", desc := "(Ljava/lang/String;)I" } : Jvm.MethodName) jdk_42_method_84_code (3 : Nat) (Option.some Jvm.ClassFile.FieldType.int)).before args0 about1 = true := code_word (m := ⟨7, 12⟩) (meth := k7m12) (c := k7c12) (by decide +kernel) rfl rfl rfl (by decide +kernel)
set_option maxRecDepth 65536 in
theorem w_c26 : (Jvm.Cond.code ({ cls := "java/lang/StringLatin1", name := "indexOf", desc := "([B[B)I" } : Jvm.MethodName) jdk_43_method_24_code (2 : Nat) (Option.some Jvm.ClassFile.FieldType.int)).before args0 about1 = true := code_word (m := ⟨10, 7⟩) (meth := k10m7) (c := k10c7) (by decide +kernel) rfl rfl rfl (by decide +kernel)
set_option maxRecDepth 65536 in
theorem w_c27 : (Jvm.Cond.code ({ cls := "com/example/usage_throttle/usagethrottle/model/EndpointPatternMatchesPinLaw", name := "put", desc := "([CII[CI)I" } : Jvm.MethodName) method_7_code (5 : Nat) (Option.some Jvm.ClassFile.FieldType.int)).before args0 about1 = true := code_word (m := ⟨1, 6⟩) (meth := k1m6) (c := k1c6) (by decide +kernel) rfl rfl rfl (by decide +kernel)
set_option maxRecDepth 65536 in
theorem w_c28 : (Jvm.Cond.code ({ cls := "java/lang/String", name := "<init>", desc := "([C)V" } : Jvm.MethodName) jdk_42_method_3_code (2 : Nat) (Option.none : Option Jvm.ClassFile.FieldType)).before args0 about1 = true := code_word (m := ⟨7, 1⟩) (meth := k7m1) (c := k7c1) (by decide +kernel) rfl rfl rfl (by decide +kernel)
set_option maxRecDepth 65536 in
theorem w_c29 : (Jvm.Cond.code ({ cls := "java/lang/String", name := "<init>", desc := "([CIILjava/lang/Void;)V" } : Jvm.MethodName) jdk_42_method_149_code (6 : Nat) (Option.none : Option Jvm.ClassFile.FieldType)).before args0 about1 = true := code_word (m := ⟨7, 16⟩) (meth := k7m16) (c := k7c16) (by decide +kernel) rfl rfl rfl (by decide +kernel)
set_option maxRecDepth 65536 in
theorem w_c30 : (Jvm.Cond.code ({ cls := "java/lang/StringUTF16", name := "compress", desc := "([CII)[B" } : Jvm.MethodName) jdk_52_method_16_code (6 : Nat) (Option.some (Jvm.ClassFile.FieldType.array Jvm.ClassFile.FieldType.byte))).before args0 about1 = true := code_word (m := ⟨12, 2⟩) (meth := k12m2) (c := k12c2) (by decide +kernel) rfl rfl rfl (by decide +kernel)
set_option maxRecDepth 65536 in
theorem w_c31 : (Jvm.Cond.code ({ cls := "java/lang/StringUTF16", name := "compress", desc := "([CI[BII)I" } : Jvm.MethodName) jdk_52_method_21_code (7 : Nat) (Option.some Jvm.ClassFile.FieldType.int)).before args0 about1 = true := code_word (m := ⟨12, 3⟩) (meth := k12m3) (c := k12c3) (by decide +kernel) rfl rfl rfl (by decide +kernel)
set_option maxRecDepth 65536 in
theorem w_c32 : (Jvm.Cond.code ({ cls := "java/lang/StringUTF16", name := "coderFromArrayLen", desc := "([BI)B" } : Jvm.MethodName) jdk_52_method_15_code (2 : Nat) (Option.some Jvm.ClassFile.FieldType.byte)).before args0 about1 = true := code_word (m := ⟨12, 1⟩) (meth := k12m1) (c := k12c1) (by decide +kernel) rfl rfl rfl (by decide +kernel)
set_option maxRecDepth 65536 in
theorem w_c33 : (Jvm.Cond.code ({ cls := "jdk/internal/util/ArraysSupport", name := "mismatch", desc := "([BI[BII)I" } : Jvm.MethodName) jdk_48_method_14_code (8 : Nat) (Option.some Jvm.ClassFile.FieldType.int)).before args0 about1 = true := code_word (m := ⟨13, 1⟩) (meth := k13m1) (c := k13c1) (by decide +kernel) rfl rfl rfl (by decide +kernel)
set_option maxRecDepth 65536 in
theorem w_c34 : (Jvm.Cond.code ({ cls := "java/lang/String", name := "substring", desc := "(II)Ljava/lang/String;" } : Jvm.MethodName) jdk_42_method_92_code (5 : Nat) (Option.some (Jvm.ClassFile.FieldType.object "java/lang/String"))).before args0 about1 = true := code_word (m := ⟨7, 13⟩) (meth := k7m13) (c := k7c13) (by decide +kernel) rfl rfl rfl (by decide +kernel)
set_option maxRecDepth 65536 in
theorem w_c35 : (Jvm.Cond.code ({ cls := "java/lang/String", name := "checkBoundsBeginEnd", desc := "(III)V" } : Jvm.MethodName) jdk_42_method_158_code (3 : Nat) (Option.none : Option Jvm.ClassFile.FieldType)).before args0 about1 = true := code_word (m := ⟨7, 22⟩) (meth := k7m22) (c := k7c22) (by decide +kernel) rfl rfl rfl (by decide +kernel)
set_option maxRecDepth 65536 in
theorem w_c36 : (Jvm.Cond.code ({ cls := "jdk/internal/util/Preconditions", name := "checkFromToIndex", desc := "(IIILjava/util/function/BiFunction;)I" } : Jvm.MethodName) jdk_41_method_12_code (4 : Nat) (Option.some Jvm.ClassFile.FieldType.int)).before args0 about1 = true := code_word (m := ⟨14, 2⟩) (meth := k14m2) (c := k14c2) (by decide +kernel) rfl rfl rfl (by decide +kernel)
set_option maxRecDepth 65536 in
theorem w_c37 : (Jvm.Cond.code ({ cls := "java/lang/StringLatin1", name := "newString", desc := "([BII)Ljava/lang/String;" } : Jvm.MethodName) jdk_43_method_47_code (3 : Nat) (Option.some (Jvm.ClassFile.FieldType.object "java/lang/String"))).before args0 about1 = true := code_word (m := ⟨10, 9⟩) (meth := k10m9) (c := k10c9) (by decide +kernel) rfl rfl rfl (by decide +kernel)
set_option maxRecDepth 65536 in
theorem w_c38 : (Jvm.Cond.code ({ cls := "java/util/Arrays", name := "copyOfRange", desc := "([BII)[B" } : Jvm.MethodName) jdk_65_method_132_code (3 : Nat) (Option.some (Jvm.ClassFile.FieldType.array Jvm.ClassFile.FieldType.byte))).before args0 about1 = true := code_word (m := ⟨15, 2⟩) (meth := k15m2) (c := k15c2) (by decide +kernel) rfl rfl rfl (by decide +kernel)
set_option maxRecDepth 65536 in
theorem w_c39 : (Jvm.Cond.code ({ cls := "java/util/Arrays", name := "copyOfRangeByte", desc := "([BII)[B" } : Jvm.MethodName) jdk_65_method_133_code (5 : Nat) (Option.some (Jvm.ClassFile.FieldType.array Jvm.ClassFile.FieldType.byte))).before args0 about1 = true := code_word (m := ⟨15, 3⟩) (meth := k15m3) (c := k15c3) (by decide +kernel) rfl rfl rfl (by decide +kernel)
set_option maxRecDepth 65536 in
theorem w_c40 : (Jvm.Cond.code ({ cls := "java/util/Arrays", name := "checkLength", desc := "(II)V" } : Jvm.MethodName) jdk_65_method_131_code (2 : Nat) (Option.none : Option Jvm.ClassFile.FieldType)).before args0 about1 = true := code_word (m := ⟨15, 1⟩) (meth := k15m1) (c := k15c1) (by decide +kernel) rfl rfl rfl (by decide +kernel)
set_option maxRecDepth 65536 in
theorem w_c41 : (Jvm.Cond.code ({ cls := "java/lang/String", name := "<init>", desc := "([BB)V" } : Jvm.MethodName) jdk_42_method_151_code (3 : Nat) (Option.none : Option Jvm.ClassFile.FieldType)).before args0 about1 = true := code_word (m := ⟨7, 18⟩) (meth := k7m18) (c := k7c18) (by decide +kernel) rfl rfl rfl (by decide +kernel)
set_option maxRecDepth 65536 in
theorem w_c42 : (Jvm.Cond.code ({ cls := "java/lang/StringLatin1", name := "equals", desc := "([B[B)Z" } : Jvm.MethodName) jdk_43_method_13_code (3 : Nat) (Option.some Jvm.ClassFile.FieldType.boolean)).before args0 about1 = true := code_word (m := ⟨10, 4⟩) (meth := k10m4) (c := k10c4) (by decide +kernel) rfl rfl rfl (by decide +kernel)
set_option maxRecDepth 65536 in
theorem w_c43 : (Jvm.Cond.code ({ cls := "java/lang/String", name := "startsWith", desc := "(Ljava/lang/String;)Z" } : Jvm.MethodName) jdk_42_method_76_code (2 : Nat) (Option.some Jvm.ClassFile.FieldType.boolean)).before args0 about1 = true := code_word (m := ⟨7, 8⟩) (meth := k7m8) (c := k7c8) (by decide +kernel) rfl rfl rfl (by decide +kernel)
set_option maxRecDepth 65536 in
theorem w_c44 : (Jvm.Cond.code ({ cls := "java/lang/StringLatin1", name := "indexOfChar", desc := "([BIII)I" } : Jvm.MethodName) jdk_43_method_23_code (6 : Nat) (Option.some Jvm.ClassFile.FieldType.int)).before args0 about1 = true := code_word (m := ⟨10, 6⟩) (meth := k10m6) (c := k10c6) (by decide +kernel) rfl rfl rfl (by decide +kernel)
set_option maxRecDepth 65536 in
theorem w_c45 : (Jvm.Cond.code ({ cls := "java/lang/StringLatin1", name := "indexOf", desc := "([BI[BII)I" } : Jvm.MethodName) jdk_43_method_25_code (11 : Nat) (Option.some Jvm.ClassFile.FieldType.int)).before args0 about1 = true := code_word (m := ⟨10, 8⟩) (meth := k10m8) (c := k10c8) (by decide +kernel) rfl rfl rfl (by decide +kernel)
set_option maxRecDepth 65536 in
theorem w_c46 : (Jvm.Cond.code ({ cls := "java/lang/String", name := "regionMatches", desc := "(ILjava/lang/String;II)Z" } : Jvm.MethodName) jdk_42_method_73_code (8 : Nat) (Option.some Jvm.ClassFile.FieldType.boolean)).before args0 about1 = true := code_word (m := ⟨7, 6⟩) (meth := k7m6) (c := k7c6) (by decide +kernel) rfl rfl rfl (by decide +kernel)
set_option maxRecDepth 65536 in
theorem w_c47 : (Jvm.Cond.code ({ cls := "com/example/usage_throttle/usagethrottle/model/EndpointPatternMatchesPinLaw", name := "eqP", desc := "([CI[CI)Z" } : Jvm.MethodName) method_8_code (4 : Nat) (Option.some Jvm.ClassFile.FieldType.boolean)).before args0 about1 = true := code_word (m := ⟨1, 7⟩) (meth := k1m7) (c := k1c7) (by decide +kernel) rfl rfl rfl (by decide +kernel)
set_option maxRecDepth 65536 in
theorem w_c48 : (Jvm.Cond.code ({ cls := "java/lang/StringBuilder", name := "<init>", desc := "(I)V" } : Jvm.MethodName) jdk_67_method_2_code (2 : Nat) (Option.none : Option Jvm.ClassFile.FieldType)).before args0 about1 = true := code_word (m := ⟨19, 1⟩) (meth := k19m1) (c := k19c1) (by decide +kernel) rfl rfl rfl (by decide +kernel)
set_option maxRecDepth 65536 in
theorem w_c49 : (Jvm.Cond.code ({ cls := "java/lang/AbstractStringBuilder", name := "<init>", desc := "(I)V" } : Jvm.MethodName) jdk_68_method_2_code (2 : Nat) (Option.none : Option Jvm.ClassFile.FieldType)).before args0 about1 = true := code_word (m := ⟨18, 1⟩) (meth := k18m1) (c := k18c1) (by decide +kernel) rfl rfl rfl (by decide +kernel)
set_option maxRecDepth 65536 in
theorem w_c50 : (Jvm.Cond.code ({ cls := "java/lang/String", name := "charAt", desc := "(I)C" } : Jvm.MethodName) jdk_42_method_56_code (2 : Nat) (Option.some Jvm.ClassFile.FieldType.char)).before args0 about1 = true := code_word (m := ⟨7, 4⟩) (meth := k7m4) (c := k7c4) (by decide +kernel) rfl rfl rfl (by decide +kernel)
set_option maxRecDepth 65536 in
theorem w_c51 : (Jvm.Cond.code ({ cls := "java/lang/StringLatin1", name := "charAt", desc := "([BI)C" } : Jvm.MethodName) jdk_43_method_2_code (2 : Nat) (Option.some Jvm.ClassFile.FieldType.char)).before args0 about1 = true := code_word (m := ⟨10, 1⟩) (meth := k10m1) (c := k10c1) (by decide +kernel) rfl rfl rfl (by decide +kernel)
set_option maxRecDepth 65536 in
theorem w_c52 : (Jvm.Cond.code ({ cls := "java/lang/String", name := "checkIndex", desc := "(II)V" } : Jvm.MethodName) jdk_42_method_155_code (2 : Nat) (Option.none : Option Jvm.ClassFile.FieldType)).before args0 about1 = true := code_word (m := ⟨7, 21⟩) (meth := k7m21) (c := k7c21) (by decide +kernel) rfl rfl rfl (by decide +kernel)
set_option maxRecDepth 65536 in
theorem w_c53 : (Jvm.Cond.code ({ cls := "jdk/internal/util/Preconditions", name := "checkIndex", desc := "(IILjava/util/function/BiFunction;)I" } : Jvm.MethodName) jdk_41_method_11_code (3 : Nat) (Option.some Jvm.ClassFile.FieldType.int)).before args0 about1 = true := code_word (m := ⟨14, 1⟩) (meth := k14m1) (c := k14c1) (by decide +kernel) rfl rfl rfl (by decide +kernel)
set_option maxRecDepth 65536 in
theorem w_c54 : (Jvm.Cond.code ({ cls := "java/lang/StringBuilder", name := "append", desc := "(C)Ljava/lang/StringBuilder;" } : Jvm.MethodName) jdk_67_method_14_code (2 : Nat) (Option.some (Jvm.ClassFile.FieldType.object "java/lang/StringBuilder"))).before args0 about1 = true := code_word (m := ⟨19, 2⟩) (meth := k19m2) (c := k19c2) (by decide +kernel) rfl rfl rfl (by decide +kernel)
set_option maxRecDepth 65536 in
theorem w_c55 : (Jvm.Cond.code ({ cls := "java/lang/AbstractStringBuilder", name := "append", desc := "(C)Ljava/lang/AbstractStringBuilder;" } : Jvm.MethodName) jdk_68_method_31_code (2 : Nat) (Option.some (Jvm.ClassFile.FieldType.object "java/lang/AbstractStringBuilder"))).before args0 about1 = true := code_word (m := ⟨18, 4⟩) (meth := k18m4) (c := k18c4) (by decide +kernel) rfl rfl rfl (by decide +kernel)
set_option maxRecDepth 65536 in
theorem w_c56 : (Jvm.Cond.code ({ cls := "java/lang/AbstractStringBuilder", name := "ensureCapacityInternal", desc := "(I)V" } : Jvm.MethodName) jdk_68_method_9_code (3 : Nat) (Option.none : Option Jvm.ClassFile.FieldType)).before args0 about1 = true := code_word (m := ⟨18, 3⟩) (meth := k18m3) (c := k18c3) (by decide +kernel) rfl rfl rfl (by decide +kernel)
set_option maxRecDepth 65536 in
theorem w_c57 : (Jvm.Cond.code ({ cls := "java/lang/AbstractStringBuilder", name := "isLatin1", desc := "()Z" } : Jvm.MethodName) jdk_68_method_68_code (1 : Nat) (Option.some Jvm.ClassFile.FieldType.boolean)).before args0 about1 = true := code_word (m := ⟨18, 6⟩) (meth := k18m6) (c := k18c6) (by decide +kernel) rfl rfl rfl (by decide +kernel)
set_option maxRecDepth 65536 in
theorem w_c58 : (Jvm.Cond.code ({ cls := "java/lang/StringLatin1", name := "canEncode", desc := "(C)Z" } : Jvm.MethodName) jdk_43_method_3_code (1 : Nat) (Option.some Jvm.ClassFile.FieldType.boolean)).before args0 about1 = true := code_word (m := ⟨10, 2⟩) (meth := k10m2) (c := k10c2) (by decide +kernel) rfl rfl rfl (by decide +kernel)
set_option maxRecDepth 65536 in
theorem w_c59 : (Jvm.Cond.code ({ cls := "java/lang/StringBuilder", name := "toString", desc := "()Ljava/lang/String;" } : Jvm.MethodName) jdk_67_method_42_code (1 : Nat) (Option.some (Jvm.ClassFile.FieldType.object "java/lang/String"))).before args0 about1 = true := code_word (m := ⟨19, 3⟩) (meth := k19m3) (c := k19c3) (by decide +kernel) rfl rfl rfl (by decide +kernel)
set_option maxRecDepth 65536 in
theorem w_c60 : (Jvm.Cond.code ({ cls := "java/lang/String", name := "<init>", desc := "(Ljava/lang/StringBuilder;)V" } : Jvm.MethodName) jdk_42_method_53_code (2 : Nat) (Option.none : Option Jvm.ClassFile.FieldType)).before args0 about1 = true := code_word (m := ⟨7, 2⟩) (meth := k7m2) (c := k7c2) (by decide +kernel) rfl rfl rfl (by decide +kernel)
set_option maxRecDepth 65536 in
theorem w_c61 : (Jvm.Cond.code ({ cls := "java/lang/String", name := "<init>", desc := "(Ljava/lang/AbstractStringBuilder;Ljava/lang/Void;)V" } : Jvm.MethodName) jdk_42_method_150_code (5 : Nat) (Option.none : Option Jvm.ClassFile.FieldType)).before args0 about1 = true := code_word (m := ⟨7, 17⟩) (meth := k7m17) (c := k7c17) (by decide +kernel) rfl rfl rfl (by decide +kernel)
set_option maxRecDepth 65536 in
theorem w_c62 : (Jvm.Cond.code ({ cls := "java/lang/AbstractStringBuilder", name := "getValue", desc := "()[B" } : Jvm.MethodName) jdk_68_method_64_code (1 : Nat) (Option.some (Jvm.ClassFile.FieldType.array Jvm.ClassFile.FieldType.byte))).before args0 about1 = true := code_word (m := ⟨18, 5⟩) (meth := k18m5) (c := k18c5) (by decide +kernel) rfl rfl rfl (by decide +kernel)
set_option maxRecDepth 65536 in
theorem w_c63 : (Jvm.Cond.code ({ cls := "java/lang/StringBuilder", name := "length", desc := "()I" } : Jvm.MethodName) jdk_67_method_93_code (1 : Nat) (Option.some Jvm.ClassFile.FieldType.int)).before args0 about1 = true := code_word (m := ⟨19, 4⟩) (meth := k19m4) (c := k19c4) (by decide +kernel) rfl rfl rfl (by decide +kernel)
set_option maxRecDepth 65536 in
theorem w_c64 : (Jvm.Cond.code ({ cls := "java/lang/AbstractStringBuilder", name := "length", desc := "()I" } : Jvm.MethodName) jdk_68_method_6_code (1 : Nat) (Option.some Jvm.ClassFile.FieldType.int)).before args0 about1 = true := code_word (m := ⟨18, 2⟩) (meth := k18m2) (c := k18c2) (by decide +kernel) rfl rfl rfl (by decide +kernel)
def codes1 : List Jvm.Cond := [Jvm.Cond.code x code maxLocals ret, Jvm.Cond.code ({ cls := "com/example/usage_throttle/usagethrottle/model/EndpointPatternMatchesPinLaw", name := "segChar", desc := "(I)C" } : Jvm.MethodName) method_3_code (2 : Nat) (Option.some Jvm.ClassFile.FieldType.char), Jvm.Cond.code ({ cls := "com/example/usage_throttle/usagethrottle/model/EndpointPatternMatchesPinLaw", name := "spell", desc := "(IIICC)Ljava/lang/String;" } : Jvm.MethodName) method_5_code (5 : Nat) (Option.some (Jvm.ClassFile.FieldType.object "java/lang/String")), Jvm.Cond.code ({ cls := "com/example/usage_throttle/usagethrottle/model/EndpointPatternMatchesPinLaw", name := "draw", desc := "(ICC)C" } : Jvm.MethodName) method_4_code (5 : Nat) (Option.some Jvm.ClassFile.FieldType.char), Jvm.Cond.code ({ cls := "com/example/usage_throttle/usagethrottle/model/EndpointPatternMatchesPinLaw", name := "text", desc := "([CI)Ljava/lang/String;" } : Jvm.MethodName) method_6_code (2 : Nat) (Option.some (Jvm.ClassFile.FieldType.object "java/lang/String")), Jvm.Cond.code ({ cls := "com/example/usage_throttle/usagethrottle/model/EndpointPattern", name := "<init>", desc := "(Ljava/lang/String;)V" } : Jvm.MethodName) prog_13_method_1_code (2 : Nat) (Option.none : Option Jvm.ClassFile.FieldType), Jvm.Cond.code ({ cls := "java/lang/Record", name := "<init>", desc := "()V" } : Jvm.MethodName) jdk_30_method_1_code (1 : Nat) (Option.none : Option Jvm.ClassFile.FieldType), Jvm.Cond.code ({ cls := "java/lang/Object", name := "<init>", desc := "()V" } : Jvm.MethodName) object_method_1_code (1 : Nat) (Option.none : Option Jvm.ClassFile.FieldType), Jvm.Cond.code ({ cls := "com/example/usage_throttle/usagethrottle/model/EndpointPattern", name := "isPattern", desc := "(Ljava/lang/String;)Z" } : Jvm.MethodName) prog_13_method_4_code (2 : Nat) (Option.some Jvm.ClassFile.FieldType.boolean), Jvm.Cond.code ({ cls := "java/lang/String", name := "endsWith", desc := "(Ljava/lang/String;)Z" } : Jvm.MethodName) jdk_42_method_77_code (2 : Nat) (Option.some Jvm.ClassFile.FieldType.boolean), Jvm.Cond.code ({ cls := "java/lang/String", name := "length", desc := "()I" } : Jvm.MethodName) jdk_42_method_54_code (1 : Nat) (Option.some Jvm.ClassFile.FieldType.int), Jvm.Cond.code ({ cls := "java/lang/String", name := "coder", desc := "()B" } : Jvm.MethodName) jdk_42_method_152_code (1 : Nat) (Option.some Jvm.ClassFile.FieldType.byte), Jvm.Cond.code ({ cls := "java/lang/String", name := "startsWith", desc := "(Ljava/lang/String;I)Z" } : Jvm.MethodName) jdk_42_method_75_code (8 : Nat) (Option.some Jvm.ClassFile.FieldType.boolean), Jvm.Cond.code ({ cls := "java/lang/String", name := "equals", desc := "(Ljava/lang/Object;)Z" } : Jvm.MethodName) jdk_42_method_66_code (3 : Nat) (Option.some Jvm.ClassFile.FieldType.boolean), Jvm.Cond.code ({ cls := "com/example/usage_throttle/usagethrottle/model/EndpointPattern", name := "matches", desc := "(Ljava/lang/String;)Z" } : Jvm.MethodName) prog_13_method_3_code (7 : Nat) (Option.some Jvm.ClassFile.FieldType.boolean), Jvm.Cond.code ({ cls := "com/example/usage_throttle/usagethrottle/model/EndpointPattern", name := "normalise", desc := "(Ljava/lang/String;)Ljava/lang/String;" } : Jvm.MethodName) prog_13_method_5_code (7 : Nat) (Option.some (Jvm.ClassFile.FieldType.object "java/lang/String")), Jvm.Cond.code ({ cls := "java/lang/String", name := "indexOf", desc := "(I)I" } : Jvm.MethodName) jdk_42_method_79_code (2 : Nat) (Option.some Jvm.ClassFile.FieldType.int), Jvm.Cond.code ({ cls := "java/lang/String", name := "indexOf", desc := "(II)I" } : Jvm.MethodName) jdk_42_method_80_code (3 : Nat) (Option.some Jvm.ClassFile.FieldType.int), Jvm.Cond.code ({ cls := "java/lang/String", name := "isLatin1", desc := "()Z" } : Jvm.MethodName) jdk_42_method_154_code (1 : Nat) (Option.some Jvm.ClassFile.FieldType.boolean), Jvm.Cond.code ({ cls := "java/lang/StringLatin1", name := "indexOf", desc := "([BIII)I" } : Jvm.MethodName) jdk_43_method_22_code (4 : Nat) (Option.some Jvm.ClassFile.FieldType.int), Jvm.Cond.code ({ cls := "java/lang/StringLatin1", name := "canEncode", desc := "(I)Z" } : Jvm.MethodName) jdk_43_method_4_code (1 : Nat) (Option.some Jvm.ClassFile.FieldType.boolean), Jvm.Cond.code ({ cls := "java/lang/Math", name := "max", desc := "(II)I" } : Jvm.MethodName) jdk_29_method_65_code (2 : Nat) (Option.some Jvm.ClassFile.FieldType.int), Jvm.Cond.code ({ cls := "java/lang/Math", name := "min", desc := "(II)I" } : Jvm.MethodName) jdk_29_method_69_code (2 : Nat) (Option.some Jvm.ClassFile.FieldType.int), Jvm.Cond.code ({ cls := "java/lang/String", name := "contains", desc := "(Ljava/lang/CharSequence;)Z" } : Jvm.MethodName) jdk_42_method_97_code (2 : Nat) (Option.some Jvm.ClassFile.FieldType.boolean), Jvm.Cond.code ({ cls := "java/lang/String", name := "toString", desc := "()Ljava/lang/String;" } : Jvm.MethodName) jdk_42_method_126_code (1 : Nat) (Option.some (Jvm.ClassFile.FieldType.object "java/lang/String")), Jvm.Cond.code ({ cls := "java/lang/String", name := "indexOf", desc := "(Ljava/lang/String;)I" } : Jvm.MethodName) jdk_42_method_84_code (3 : Nat) (Option.some Jvm.ClassFile.FieldType.int), Jvm.Cond.code ({ cls := "java/lang/StringLatin1", name := "indexOf", desc := "([B[B)I" } : Jvm.MethodName) jdk_43_method_24_code (2 : Nat) (Option.some Jvm.ClassFile.FieldType.int), Jvm.Cond.code ({ cls := "com/example/usage_throttle/usagethrottle/model/EndpointPatternMatchesPinLaw", name := "put", desc := "([CII[CI)I" } : Jvm.MethodName) method_7_code (5 : Nat) (Option.some Jvm.ClassFile.FieldType.int), Jvm.Cond.code ({ cls := "java/lang/String", name := "<init>", desc := "([C)V" } : Jvm.MethodName) jdk_42_method_3_code (2 : Nat) (Option.none : Option Jvm.ClassFile.FieldType), Jvm.Cond.code ({ cls := "java/lang/String", name := "<init>", desc := "([CIILjava/lang/Void;)V" } : Jvm.MethodName) jdk_42_method_149_code (6 : Nat) (Option.none : Option Jvm.ClassFile.FieldType), Jvm.Cond.code ({ cls := "java/lang/StringUTF16", name := "compress", desc := "([CII)[B" } : Jvm.MethodName) jdk_52_method_16_code (6 : Nat) (Option.some (Jvm.ClassFile.FieldType.array Jvm.ClassFile.FieldType.byte)), Jvm.Cond.code ({ cls := "java/lang/StringUTF16", name := "compress", desc := "([CI[BII)I" } : Jvm.MethodName) jdk_52_method_21_code (7 : Nat) (Option.some Jvm.ClassFile.FieldType.int), Jvm.Cond.code ({ cls := "java/lang/StringUTF16", name := "coderFromArrayLen", desc := "([BI)B" } : Jvm.MethodName) jdk_52_method_15_code (2 : Nat) (Option.some Jvm.ClassFile.FieldType.byte), Jvm.Cond.code ({ cls := "jdk/internal/util/ArraysSupport", name := "mismatch", desc := "([BI[BII)I" } : Jvm.MethodName) jdk_48_method_14_code (8 : Nat) (Option.some Jvm.ClassFile.FieldType.int), Jvm.Cond.code ({ cls := "java/lang/String", name := "substring", desc := "(II)Ljava/lang/String;" } : Jvm.MethodName) jdk_42_method_92_code (5 : Nat) (Option.some (Jvm.ClassFile.FieldType.object "java/lang/String")), Jvm.Cond.code ({ cls := "java/lang/String", name := "checkBoundsBeginEnd", desc := "(III)V" } : Jvm.MethodName) jdk_42_method_158_code (3 : Nat) (Option.none : Option Jvm.ClassFile.FieldType), Jvm.Cond.code ({ cls := "jdk/internal/util/Preconditions", name := "checkFromToIndex", desc := "(IIILjava/util/function/BiFunction;)I" } : Jvm.MethodName) jdk_41_method_12_code (4 : Nat) (Option.some Jvm.ClassFile.FieldType.int), Jvm.Cond.code ({ cls := "java/lang/StringLatin1", name := "newString", desc := "([BII)Ljava/lang/String;" } : Jvm.MethodName) jdk_43_method_47_code (3 : Nat) (Option.some (Jvm.ClassFile.FieldType.object "java/lang/String")), Jvm.Cond.code ({ cls := "java/util/Arrays", name := "copyOfRange", desc := "([BII)[B" } : Jvm.MethodName) jdk_65_method_132_code (3 : Nat) (Option.some (Jvm.ClassFile.FieldType.array Jvm.ClassFile.FieldType.byte)), Jvm.Cond.code ({ cls := "java/util/Arrays", name := "copyOfRangeByte", desc := "([BII)[B" } : Jvm.MethodName) jdk_65_method_133_code (5 : Nat) (Option.some (Jvm.ClassFile.FieldType.array Jvm.ClassFile.FieldType.byte)), Jvm.Cond.code ({ cls := "java/util/Arrays", name := "checkLength", desc := "(II)V" } : Jvm.MethodName) jdk_65_method_131_code (2 : Nat) (Option.none : Option Jvm.ClassFile.FieldType), Jvm.Cond.code ({ cls := "java/lang/String", name := "<init>", desc := "([BB)V" } : Jvm.MethodName) jdk_42_method_151_code (3 : Nat) (Option.none : Option Jvm.ClassFile.FieldType), Jvm.Cond.code ({ cls := "java/lang/StringLatin1", name := "equals", desc := "([B[B)Z" } : Jvm.MethodName) jdk_43_method_13_code (3 : Nat) (Option.some Jvm.ClassFile.FieldType.boolean), Jvm.Cond.code ({ cls := "java/lang/String", name := "startsWith", desc := "(Ljava/lang/String;)Z" } : Jvm.MethodName) jdk_42_method_76_code (2 : Nat) (Option.some Jvm.ClassFile.FieldType.boolean), Jvm.Cond.code ({ cls := "java/lang/StringLatin1", name := "indexOfChar", desc := "([BIII)I" } : Jvm.MethodName) jdk_43_method_23_code (6 : Nat) (Option.some Jvm.ClassFile.FieldType.int), Jvm.Cond.code ({ cls := "java/lang/StringLatin1", name := "indexOf", desc := "([BI[BII)I" } : Jvm.MethodName) jdk_43_method_25_code (11 : Nat) (Option.some Jvm.ClassFile.FieldType.int), Jvm.Cond.code ({ cls := "java/lang/String", name := "regionMatches", desc := "(ILjava/lang/String;II)Z" } : Jvm.MethodName) jdk_42_method_73_code (8 : Nat) (Option.some Jvm.ClassFile.FieldType.boolean), Jvm.Cond.code ({ cls := "com/example/usage_throttle/usagethrottle/model/EndpointPatternMatchesPinLaw", name := "eqP", desc := "([CI[CI)Z" } : Jvm.MethodName) method_8_code (4 : Nat) (Option.some Jvm.ClassFile.FieldType.boolean), Jvm.Cond.code ({ cls := "java/lang/StringBuilder", name := "<init>", desc := "(I)V" } : Jvm.MethodName) jdk_67_method_2_code (2 : Nat) (Option.none : Option Jvm.ClassFile.FieldType), Jvm.Cond.code ({ cls := "java/lang/AbstractStringBuilder", name := "<init>", desc := "(I)V" } : Jvm.MethodName) jdk_68_method_2_code (2 : Nat) (Option.none : Option Jvm.ClassFile.FieldType), Jvm.Cond.code ({ cls := "java/lang/String", name := "charAt", desc := "(I)C" } : Jvm.MethodName) jdk_42_method_56_code (2 : Nat) (Option.some Jvm.ClassFile.FieldType.char), Jvm.Cond.code ({ cls := "java/lang/StringLatin1", name := "charAt", desc := "([BI)C" } : Jvm.MethodName) jdk_43_method_2_code (2 : Nat) (Option.some Jvm.ClassFile.FieldType.char), Jvm.Cond.code ({ cls := "java/lang/String", name := "checkIndex", desc := "(II)V" } : Jvm.MethodName) jdk_42_method_155_code (2 : Nat) (Option.none : Option Jvm.ClassFile.FieldType), Jvm.Cond.code ({ cls := "jdk/internal/util/Preconditions", name := "checkIndex", desc := "(IILjava/util/function/BiFunction;)I" } : Jvm.MethodName) jdk_41_method_11_code (3 : Nat) (Option.some Jvm.ClassFile.FieldType.int), Jvm.Cond.code ({ cls := "java/lang/StringBuilder", name := "append", desc := "(C)Ljava/lang/StringBuilder;" } : Jvm.MethodName) jdk_67_method_14_code (2 : Nat) (Option.some (Jvm.ClassFile.FieldType.object "java/lang/StringBuilder")), Jvm.Cond.code ({ cls := "java/lang/AbstractStringBuilder", name := "append", desc := "(C)Ljava/lang/AbstractStringBuilder;" } : Jvm.MethodName) jdk_68_method_31_code (2 : Nat) (Option.some (Jvm.ClassFile.FieldType.object "java/lang/AbstractStringBuilder")), Jvm.Cond.code ({ cls := "java/lang/AbstractStringBuilder", name := "ensureCapacityInternal", desc := "(I)V" } : Jvm.MethodName) jdk_68_method_9_code (3 : Nat) (Option.none : Option Jvm.ClassFile.FieldType), Jvm.Cond.code ({ cls := "java/lang/AbstractStringBuilder", name := "isLatin1", desc := "()Z" } : Jvm.MethodName) jdk_68_method_68_code (1 : Nat) (Option.some Jvm.ClassFile.FieldType.boolean), Jvm.Cond.code ({ cls := "java/lang/StringLatin1", name := "canEncode", desc := "(C)Z" } : Jvm.MethodName) jdk_43_method_3_code (1 : Nat) (Option.some Jvm.ClassFile.FieldType.boolean), Jvm.Cond.code ({ cls := "java/lang/StringBuilder", name := "toString", desc := "()Ljava/lang/String;" } : Jvm.MethodName) jdk_67_method_42_code (1 : Nat) (Option.some (Jvm.ClassFile.FieldType.object "java/lang/String")), Jvm.Cond.code ({ cls := "java/lang/String", name := "<init>", desc := "(Ljava/lang/StringBuilder;)V" } : Jvm.MethodName) jdk_42_method_53_code (2 : Nat) (Option.none : Option Jvm.ClassFile.FieldType), Jvm.Cond.code ({ cls := "java/lang/String", name := "<init>", desc := "(Ljava/lang/AbstractStringBuilder;Ljava/lang/Void;)V" } : Jvm.MethodName) jdk_42_method_150_code (5 : Nat) (Option.none : Option Jvm.ClassFile.FieldType), Jvm.Cond.code ({ cls := "java/lang/AbstractStringBuilder", name := "getValue", desc := "()[B" } : Jvm.MethodName) jdk_68_method_64_code (1 : Nat) (Option.some (Jvm.ClassFile.FieldType.array Jvm.ClassFile.FieldType.byte)), Jvm.Cond.code ({ cls := "java/lang/StringBuilder", name := "length", desc := "()I" } : Jvm.MethodName) jdk_67_method_93_code (1 : Nat) (Option.some Jvm.ClassFile.FieldType.int), Jvm.Cond.code ({ cls := "java/lang/AbstractStringBuilder", name := "length", desc := "()I" } : Jvm.MethodName) jdk_68_method_6_code (1 : Nat) (Option.some Jvm.ClassFile.FieldType.int)]
set_option maxRecDepth 65536 in
theorem codes_eq : words1.filter isCode = codes1 := rfl
theorem w_codes : ∀ c ∈ words1.filter isCode, c.before args0 about1 = true := by
  rw [codes_eq]
  intro c hc
  simp only [codes1, List.mem_cons, List.not_mem_nil, or_false] at hc
  rcases hc with rfl | rfl | rfl | rfl | rfl | rfl | rfl | rfl | rfl | rfl | rfl | rfl | rfl | rfl | rfl | rfl | rfl | rfl | rfl | rfl | rfl | rfl | rfl | rfl | rfl | rfl | rfl | rfl | rfl | rfl | rfl | rfl | rfl | rfl | rfl | rfl | rfl | rfl | rfl | rfl | rfl | rfl | rfl | rfl | rfl | rfl | rfl | rfl | rfl | rfl | rfl | rfl | rfl | rfl | rfl | rfl | rfl | rfl | rfl | rfl | rfl | rfl | rfl | rfl | rfl
  · exact w_c0
  · exact w_c1
  · exact w_c2
  · exact w_c3
  · exact w_c4
  · exact w_c5
  · exact w_c6
  · exact w_c7
  · exact w_c8
  · exact w_c9
  · exact w_c10
  · exact w_c11
  · exact w_c12
  · exact w_c13
  · exact w_c14
  · exact w_c15
  · exact w_c16
  · exact w_c17
  · exact w_c18
  · exact w_c19
  · exact w_c20
  · exact w_c21
  · exact w_c22
  · exact w_c23
  · exact w_c24
  · exact w_c25
  · exact w_c26
  · exact w_c27
  · exact w_c28
  · exact w_c29
  · exact w_c30
  · exact w_c31
  · exact w_c32
  · exact w_c33
  · exact w_c34
  · exact w_c35
  · exact w_c36
  · exact w_c37
  · exact w_c38
  · exact w_c39
  · exact w_c40
  · exact w_c41
  · exact w_c42
  · exact w_c43
  · exact w_c44
  · exact w_c45
  · exact w_c46
  · exact w_c47
  · exact w_c48
  · exact w_c49
  · exact w_c50
  · exact w_c51
  · exact w_c52
  · exact w_c53
  · exact w_c54
  · exact w_c55
  · exact w_c56
  · exact w_c57
  · exact w_c58
  · exact w_c59
  · exact w_c60
  · exact w_c61
  · exact w_c62
  · exact w_c63
  · exact w_c64
set_option maxRecDepth 65536 in
theorem w_t1 : (words1.take 24).all (fun c => isCode c || c.before args0 about1) = true := by decide +kernel
set_option maxRecDepth 65536 in
theorem w_t2 : ((words1.drop 24).take 24).all (fun c => isCode c || c.before args0 about1) = true := by decide +kernel
set_option maxRecDepth 65536 in
theorem w_t3 : (((words1.drop 24).drop 24).take 24).all (fun c => isCode c || c.before args0 about1) = true := by decide +kernel
set_option maxRecDepth 65536 in
theorem w_t4 : ((((words1.drop 24).drop 24).drop 24).take 24).all (fun c => isCode c || c.before args0 about1) = true := by decide +kernel
set_option maxRecDepth 65536 in
theorem w_t5 : (((((words1.drop 24).drop 24).drop 24).drop 24).take 24).all (fun c => isCode c || c.before args0 about1) = true := by decide +kernel
set_option maxRecDepth 65536 in
theorem w_t6 : ((((((words1.drop 24).drop 24).drop 24).drop 24).drop 24).take 24).all (fun c => isCode c || c.before args0 about1) = true := by decide +kernel
set_option maxRecDepth 65536 in
theorem w_t7 : (((((((words1.drop 24).drop 24).drop 24).drop 24).drop 24).drop 24).take 24).all (fun c => isCode c || c.before args0 about1) = true := by decide +kernel
set_option maxRecDepth 65536 in
theorem w_t8 : ((((((((words1.drop 24).drop 24).drop 24).drop 24).drop 24).drop 24).drop 24).take 24).all (fun c => isCode c || c.before args0 about1) = true := by decide +kernel
set_option maxRecDepth 65536 in
theorem w_t9 : (((((((((words1.drop 24).drop 24).drop 24).drop 24).drop 24).drop 24).drop 24).drop 24).take 24).all (fun c => isCode c || c.before args0 about1) = true := by decide +kernel
set_option maxRecDepth 65536 in
theorem w_t10 : ((((((((((words1.drop 24).drop 24).drop 24).drop 24).drop 24).drop 24).drop 24).drop 24).drop 24).take 24).all (fun c => isCode c || c.before args0 about1) = true := by decide +kernel
set_option maxRecDepth 65536 in
theorem w_t11 : (((((((((((words1.drop 24).drop 24).drop 24).drop 24).drop 24).drop 24).drop 24).drop 24).drop 24).drop 24).take 24).all (fun c => isCode c || c.before args0 about1) = true := by decide +kernel
set_option maxRecDepth 65536 in
theorem w_t12 : ((((((((((((words1.drop 24).drop 24).drop 24).drop 24).drop 24).drop 24).drop 24).drop 24).drop 24).drop 24).drop 24).take 24).all (fun c => isCode c || c.before args0 about1) = true := by decide +kernel
set_option maxRecDepth 65536 in
theorem w_t13 : ((((((((((((words1.drop 24).drop 24).drop 24).drop 24).drop 24).drop 24).drop 24).drop 24).drop 24).drop 24).drop 24).drop 24).all (fun c => isCode c || c.before args0 about1) = true := by decide +kernel
theorem w_tables : (allAtoms (Jvm.Cond.code x code maxLocals ret :: tables_1)).before args0 about1 = true := by
  rw [allAtoms_all]
  show words1.all (fun c => c.before args0 about1) = true
  refine all_split ?_ w_codes
  rw [← List.take_append_drop 24 words1, List.all_append, w_t1, ← List.take_append_drop 24 (words1.drop 24), List.all_append, w_t2, ← List.take_append_drop 24 ((words1.drop 24).drop 24), List.all_append, w_t3, ← List.take_append_drop 24 (((words1.drop 24).drop 24).drop 24), List.all_append, w_t4, ← List.take_append_drop 24 ((((words1.drop 24).drop 24).drop 24).drop 24), List.all_append, w_t5, ← List.take_append_drop 24 (((((words1.drop 24).drop 24).drop 24).drop 24).drop 24), List.all_append, w_t6, ← List.take_append_drop 24 ((((((words1.drop 24).drop 24).drop 24).drop 24).drop 24).drop 24), List.all_append, w_t7, ← List.take_append_drop 24 (((((((words1.drop 24).drop 24).drop 24).drop 24).drop 24).drop 24).drop 24), List.all_append, w_t8, ← List.take_append_drop 24 ((((((((words1.drop 24).drop 24).drop 24).drop 24).drop 24).drop 24).drop 24).drop 24), List.all_append, w_t9, ← List.take_append_drop 24 (((((((((words1.drop 24).drop 24).drop 24).drop 24).drop 24).drop 24).drop 24).drop 24).drop 24), List.all_append, w_t10, ← List.take_append_drop 24 ((((((((((words1.drop 24).drop 24).drop 24).drop 24).drop 24).drop 24).drop 24).drop 24).drop 24).drop 24), List.all_append, w_t11, ← List.take_append_drop 24 (((((((((((words1.drop 24).drop 24).drop 24).drop 24).drop 24).drop 24).drop 24).drop 24).drop 24).drop 24).drop 24), List.all_append, w_t12, w_t13]
  rfl
set_option maxRecDepth 65536 in
theorem w_rest : rest_1_c.before args0 about1 = true := by decide +kernel
set_option maxRecDepth 65536 in
theorem w_case : (Jvm.Cond.and given_1 narrow_1).before args0 about1 = true := by decide +kernel
set_option maxRecDepth 65536 in
theorem w_consts : constsHeld consts_1 about1 := Jvm.Lit.constsHeldB_iff.mp (by decide +kernel)
theorem w_applies : (headSpec (Jvm.Cond.code x code maxLocals ret :: tables_1) room_1).applies x e0.platform about1 = true :=
  (Spec.applies_iff w_frames).mpr ⟨w_running, w_runnable, w_alone, w_named, w_hears, w_ripe, w_room, w_tables⟩
theorem atStart : AtStart classFile x code maxLocals ret World_1 tables_1 room_1 Calls_1 rest_1 Pre_1 launch0 p0 e0 about1 theMethod args0 below0 :=
  ⟨lists_1, trivial, launch0.admits_env _ _ _, launch0.least_env, fairChoices_fair.cas, fairChoices_fair.clock, w_frames, w_args, w_heap, w_applies, ⟨w_consts, trivial⟩, w_rest, w_case⟩
end start1
theorem witness_1 : WitnessClaimed_1 := ⟨start1.p0, start1.e0, start1.about1, start1.theMethod, start1.args0, start1.below0, start1.atStart⟩
end Jvm.Pilot.@@N@@
