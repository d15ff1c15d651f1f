import JvmDerived
import JvmDerived.Pilot.@@N@@Statement
import JvmDerived.Pilot.@@N@@Code
set_option linter.unusedVariables false
set_option linter.unusedSimpArgs false
/- laws to paste: Road.backV (cut by pick.py; bodies as the Statement names them) -/
namespace Jvm.Pilot.@@N@@
namespace StrChars
open Jvm Sem ClassFile Op Lib Jvm.Stand Jvm.Free.XT Jvm.Free.ALB Jvm.Free.JM Jvm.Free
open Jvm.Lib.Cold (StaticIs)
/-- a char array whose places are chars -/
def Ch (a : Addr) (A : Cell) (U : State) : Prop := Arr .char a A U ∧ Typed .char A
theorem Ch.mv {a : Addr} {A : Cell} {U U' : State} (h : Ch a A U) (hal : U.vm.Alike U'.vm) (hh : U'.heap = U.heap) : Ch a A U' := ⟨h.1.mv hal hh, h.2⟩
theorem Ch.keep {a : Addr} {A : Cell} {U U' : State} (h : Ch a A U) (hal : U.vm.Alike U'.vm) (hk : U'.heap[a]? = some A) : Ch a A U' := ⟨h.1.keep hal hk, h.2⟩
/-- what place i of a char[]'s cell holds -/
def cv (A : Cell) (i : Nat) : Int32 := match A.slots[i]? with | some (.int x) => x | _ => 0
theorem Ch.get {a : Addr} {A : Cell} {U : State} (h : Ch a A U) {i : Nat} (hi : i < A.slots.size) : A.slots[i]? = some (.int (cv A i)) := by
  have e := Array.getElem?_eq_getElem hi
  have f := h.2 i _ e
  unfold cv; rw [e]
  generalize A.slots[i] = v at f
  cases v <;> simp [fits] at f ⊢
/-- the byte that i2b leaves of a char -/
def lo8 (x : Int32) : Int32 := x.toInt8.toInt32
theorem fits_lo8 (y : Int32) : fits .byte (.int (lo8 y)) = true := by
  have h1 := y.toInt8.le_toInt
  have h2 := y.toInt8.toInt_lt
  simp only [lo8, fits, Bool.and_eq_true, decide_eq_true_eq, Int32.le_iff_toInt_le, Int8.toInt_toInt32, show (-128 : Int32).toInt = -128 from by decide, show (127 : Int32).toInt = 127 from by decide]
  omega
/-- A' is A but that each place j of lo .. hi - 1 holds f j -/
def Laid (A A' : Cell) (lo hi : Nat) (f : Nat → Value) : Prop := A'.cls = A.cls ∧ A'.vm = A.vm ∧ A'.slots.size = A.slots.size ∧ ∀ i, A'.slots[i]? = if lo ≤ i ∧ i < hi then some (f i) else A.slots[i]?
theorem Laid.zero (A : Cell) (lo : Nat) (f : Nat → Value) : Laid A A lo (lo + 0) f := ⟨rfl, rfl, rfl, fun i => by rw [if_neg (by omega)]⟩
theorem Laid.step {A Ak : Cell} {lo k : Nat} {f : Nat → Value} {v : Value} (h : Laid A Ak lo k f) (hlo : lo ≤ k) (hk : k < Ak.slots.size) (hv : v = f k) : Laid A (Ak.setSlot k v) lo (k + 1) f := by
  refine ⟨h.1, h.2.1, by simpa [Cell.setSlot] using h.2.2.1, fun i => ?_⟩
  by_cases e : k = i
  · subst e; rw [Cell.slots_setSlot_self v hk, if_pos (by omega), hv]
  · rw [Cell.slots_setSlot_ne v e, h.2.2.2 i]
    by_cases q : lo ≤ i ∧ i < k
    · rw [if_pos q, if_pos (by omega)]
    · rw [if_neg q, if_neg (by omega)]
def U16 : String := "java/lang/StringUTF16"
namespace Cmp5
def yN : MethodName := ⟨"java/lang/StringUTF16", "compress", "([CI[BII)I"⟩
abbrev yB : ByteArray := jdk_52_method_21_code
theorem d0 : decode yB 0 = .ok (.iconst 0, 1) := by decide +kernel
theorem d1 : decode yB 1 = .ok (.istore 5, 2) := by decide +kernel
theorem d3 : decode yB 3 = .ok (.iload 5, 2) := by decide +kernel
theorem d5 : decode yB 5 = .ok (.iload 4, 2) := by decide +kernel
theorem d7 : decode yB 7 = .ok (.if_icmp (.ge) 37, 3) := by decide +kernel
theorem d10 : decode yB 10 = .ok (.aload_n 0, 1) := by decide +kernel
theorem d11 : decode yB 11 = .ok (.iload_n 1, 1) := by decide +kernel
theorem d12 : decode yB 12 = .ok (.caload, 1) := by decide +kernel
theorem d13 : decode yB 13 = .ok (.istore 6, 2) := by decide +kernel
theorem d15 : decode yB 15 = .ok (.iload 6, 2) := by decide +kernel
theorem d17 : decode yB 17 = .ok (.sipush 255, 3) := by decide +kernel
theorem d20 : decode yB 20 = .ok (.if_icmp (.le) 6, 3) := by decide +kernel
theorem d26 : decode yB 26 = .ok (.aload_n 2, 1) := by decide +kernel
theorem d27 : decode yB 27 = .ok (.iload_n 3, 1) := by decide +kernel
theorem d28 : decode yB 28 = .ok (.iload 6, 2) := by decide +kernel
theorem d30 : decode yB 30 = .ok (.i2b, 1) := by decide +kernel
theorem d31 : decode yB 31 = .ok (.bastore, 1) := by decide +kernel
theorem d32 : decode yB 32 = .ok (.iinc 1 1, 3) := by decide +kernel
theorem d35 : decode yB 35 = .ok (.iinc 3 1, 3) := by decide +kernel
theorem d38 : decode yB 38 = .ok (.iinc 5 1, 3) := by decide +kernel
theorem d41 : decode yB 41 = .ok (.goto (-38), 3) := by decide +kernel
theorem d44 : decode yB 44 = .ok (.iload 4, 2) := by decide +kernel
theorem d46 : decode yB 46 = .ok (.ireturn, 1) := by decide +kernel
def site : List Cond := []
def tab : Cond := tabOf yN yB 7 (some .int) site
def P (b : Addr) (A : Cell) (d : Addr) (B : Cell) (o q len : Nat) (args : Array Value) (s : State) : Prop := args = #[.ref b, .int (Int32.ofNat o), .ref d, .int (Int32.ofNat q), .int (Int32.ofNat len)] ∧ Ch b A s ∧ Arr .byte d B s ∧ b ≠ d ∧ o + len ≤ A.slots.size ∧ q + len ≤ B.slots.size ∧ ∀ i, i < len → ¬ 255 < cv A (o + i)
def E (b : Addr) (A : Cell) (d : Addr) (B : Cell) (o q len : Nat) (r : Option Value) (s u : State) : Prop := r = some (.int (Int32.ofNat len)) ∧ ∃ B', Put d B' s u ∧ Laid B B' q (q + len) (fun j => Value.int (lo8 (cv A (o + (j - q)))))
/-- no char of the range above 255: len; the places written hold each char's low byte -/
theorem law (l : Launch) (b : Addr) (A : Cell) (d : Addr) (B : Cell) (o q len : Nat) : Law l yN 5 5 0 0 yB 7 (some .int) site (P b A d B o q len) (E b A d B o q len) (copyLocs d q len) 0 0 := by
  refine Law.of_walk (plainFor_of_name (by decide +kernel)) (by decide +kernel) (by decide +kernel) (by decide) (fun _ _ h => by rw [h.1]; rfl) (fun _ U U' hal hh h => ⟨h.1, h.2.1.mv hal hh, h.2.2.1.mv hal hh, h.2.2.2⟩) (fun r U U' V V' h1 hal h2 h => ⟨h.1, h.2.elim fun B' q => ⟨B', q.1.mv h1 h2, q.2⟩⟩) ?_
  intro p e s m args below meth c s₁ X0 hexec hbytes hml hret hlk hnm hown hh0 W hP
  obtain ⟨rfl, hA, hB, hne, l1, l2, hp⟩ := hP
  have c1 : Steps p.tables e below (s₁.setTop (entryFrame m #[.ref b, .int (Int32.ofNat o), .ref d, .int (Int32.ofNat q), .int (Int32.ofNat len)] 7)) (s₁.setTop (mkF m 0 #[.val (.ref b), .val (.int (Int32.ofNat o)), .val (.ref d), .val (.int (Int32.ofNat q)), .val (.int (Int32.ofNat len)), .unset, .unset] [])) := entry rfl
  have hA0 := hA.1.mv X0.warmed.alike hh0
  have hB0 := hB.mv X0.warmed.alike hh0
  have a31 := hA.1.2.2.2
  have c2 : Steps p.tables e below (s₁.setTop (entryFrame m #[.ref b, .int (Int32.ofNat o), .ref d, .int (Int32.ofNat q), .int (Int32.ofNat len)] 7)) (s₁.setTop (mkF m 3 #[.val (.ref b), .val (.int (Int32.ofNat o)), .val (.ref d), .val (.int (Int32.ofNat q)), .val (.int (Int32.ofNat len)), .val (.int 0), .unset] [])) := c1.trans (by
    refine iconstV X0.here hexec rfl 0 (hb hbytes d0) (by decide) ?_
    refine XS.istore X0.here hexec rfl (hb hbytes d1) rfl rfl ?_
    exact Steps.refl _)
  have loop : ∀ (r i : Nat), i + r = len → ∀ (z : Slot), (z = .unset ∨ ∃ w, z = .val w ∧ w.category = 1) → ∀ (Tl : State) (Bk : Cell), Stand p l e { frames := 0, locals := 0, cells := 0, slots := 0 } s m #[.ref b, .int (Int32.ofNat o), .ref d, .int (Int32.ofNat q), .int (Int32.ofNat len)] below meth c Tl ([] ++ copyLocs d q i) 0 0 → Put d Bk s₁ Tl → Laid B Bk q (q + i) (fun j => Value.int (lo8 (cv A (o + (j - q))))) →
      Steps p.tables e below (s₁.setTop (entryFrame m #[.ref b, .int (Int32.ofNat o), .ref d, .int (Int32.ofNat q), .int (Int32.ofNat len)] 7)) (Tl.setTop (mkF m 3 #[.val (.ref b), .val (.int (Int32.ofNat (o + i))), .val (.ref d), .val (.int (Int32.ofNat (q + i))), .val (.int (Int32.ofNat len)), .val (.int (Int32.ofNat i)), z] [])) → ∃ (T' : State) (B' : Cell) (z' : Slot), Stand p l e { frames := 0, locals := 0, cells := 0, slots := 0 } s m #[.ref b, .int (Int32.ofNat o), .ref d, .int (Int32.ofNat q), .int (Int32.ofNat len)] below meth c T' ([] ++ copyLocs d q len) 0 0 ∧ Put d B' s₁ T' ∧ Laid B B' q (q + len) (fun j => Value.int (lo8 (cv A (o + (j - q))))) ∧
      Steps p.tables e below (s₁.setTop (entryFrame m #[.ref b, .int (Int32.ofNat o), .ref d, .int (Int32.ofNat q), .int (Int32.ofNat len)] 7)) (T'.setTop (mkF m 3 #[.val (.ref b), .val (.int (Int32.ofNat (o + len))), .val (.ref d), .val (.int (Int32.ofNat (q + len))), .val (.int (Int32.ofNat len)), .val (.int (Int32.ofNat len)), z'] [])) := by
    intro r
    induction r with
    | zero =>
      intro i hi z hz Tl Bk Xl pl fl cl
      have hil : i = len := by omega
      rw [hil] at Xl fl cl
      exact ⟨Tl, Bk, z, Xl, pl, fl, cl⟩
    | succ r ih =>
      intro i hi z hz Tl Bk Xl pl fl cl
      have all := X0.warmed.alike.symm.trans Xl.warmed.alike
      have hAl := hA0.keep all (pl.other hne hA0.1)
      have hBk := hB0.like all pl.1 fl.1 fl.2.1 fl.2.2.1
      have hlt : q + i < Bk.slots.size := by rw [fl.2.2.1]; omega
      have c3 : Steps p.tables e below (s₁.setTop (entryFrame m #[.ref b, .int (Int32.ofNat o), .ref d, .int (Int32.ofNat q), .int (Int32.ofNat len)] 7)) (Tl.setTop (mkF m 12 #[.val (.ref b), .val (.int (Int32.ofNat (o + i))), .val (.ref d), .val (.int (Int32.ofNat (q + i))), .val (.int (Int32.ofNat len)), .val (.int (Int32.ofNat i)), z] [.int (Int32.ofNat (o + i)), .ref b])) := cl.trans (by
        refine XS.iload Xl.here hexec rfl (hb hbytes d3) rfl ?_
        refine XS.iload Xl.here hexec rfl (hb hbytes d5) rfl ?_
        refine XS.icmpNo Xl.here hexec rfl (hb hbytes d7) rfl (ii_ge_f (lt32 (by omega) (by omega))) ?_
        refine XS.aloadN Xl.here hexec rfl (hb hbytes d10) rfl rfl ?_
        refine XS.iloadN Xl.here hexec rfl (hb hbytes d11) rfl ?_
        exact Steps.refl _)
      have c4 : Steps p.tables e below (s₁.setTop (entryFrame m #[.ref b, .int (Int32.ofNat o), .ref d, .int (Int32.ofNat q), .int (Int32.ofNat len)] 7)) (Tl.setTop (mkF m 13 #[.val (.ref b), .val (.int (Int32.ofNat (o + i))), .val (.ref d), .val (.int (Int32.ofNat (q + i))), .val (.int (Int32.ofNat len)), .val (.int (Int32.ofNat i)), z] [.int (cv A (o + i))])) := c3.trans (by
        refine Xl.aget hexec hAl rfl (hA.get (i := o + i) (by omega)) rfl rfl (hb hbytes d12) ?_
        exact Steps.refl _)
      have c5 : Steps p.tables e below (s₁.setTop (entryFrame m #[.ref b, .int (Int32.ofNat o), .ref d, .int (Int32.ofNat q), .int (Int32.ofNat len)] 7)) (Tl.setTop (mkF m 15 #[.val (.ref b), .val (.int (Int32.ofNat (o + i))), .val (.ref d), .val (.int (Int32.ofNat (q + i))), .val (.int (Int32.ofNat len)), .val (.int (Int32.ofNat i)), .val (.int (cv A (o + i)))] [])) := c4.trans (by
        refine XS.istoreS Xl.here hexec rfl (hb hbytes d13) rfl rfl hz ?_
        exact Steps.refl _)
      have c6 : Steps p.tables e below (s₁.setTop (entryFrame m #[.ref b, .int (Int32.ofNat o), .ref d, .int (Int32.ofNat q), .int (Int32.ofNat len)] 7)) (Tl.setTop (mkF m 31 #[.val (.ref b), .val (.int (Int32.ofNat (o + i))), .val (.ref d), .val (.int (Int32.ofNat (q + i))), .val (.int (Int32.ofNat len)), .val (.int (Int32.ofNat i)), .val (.int (cv A (o + i)))] [.int (lo8 (cv A (o + i))), .int (Int32.ofNat (q + i)), .ref d])) := c5.trans (by
        refine XS.iload Xl.here hexec rfl (hb hbytes d15) rfl ?_
        refine sipushV Xl.here hexec rfl 255 (hb hbytes d17) (by decide) ?_
        refine XS.icmpYes Xl.here hexec rfl (pc0 := 20) rfl (hb hbytes d20) rfl (ii_le_t (hp i (by omega))) (by decide) rfl ?_
        refine XS.aloadN Xl.here hexec rfl (hb hbytes d26) rfl rfl ?_
        refine XS.iloadN Xl.here hexec rfl (hb hbytes d27) rfl ?_
        refine XS.iload Xl.here hexec rfl (hb hbytes d28) rfl ?_
        refine i2b Xl.here hexec rfl (hb hbytes d30) rfl ?_
        exact Steps.refl _)
      obtain ⟨T7, X7, p7, st7⟩ := Xl.aput hexec hBk rfl hlt rfl (fits_lo8 (cv A (o + i))) (g := (mkF m 31 #[.val (.ref b), .val (.int (Int32.ofNat (o + i))), .val (.ref d), .val (.int (Int32.ofNat (q + i))), .val (.int (Int32.ofNat len)), .val (.int (Int32.ofNat i)), .val (.int (cv A (o + i)))] [.int (lo8 (cv A (o + i))), .int (Int32.ofNat (q + i)), .ref d])) rfl (rest := []) rfl (hb hbytes d31)
      have c8 : Steps p.tables e below (s₁.setTop (entryFrame m #[.ref b, .int (Int32.ofNat o), .ref d, .int (Int32.ofNat q), .int (Int32.ofNat len)] 7)) (T7.setTop (mkF m 32 #[.val (.ref b), .val (.int (Int32.ofNat (o + i))), .val (.ref d), .val (.int (Int32.ofNat (q + i))), .val (.int (Int32.ofNat len)), .val (.int (Int32.ofNat i)), .val (.int (cv A (o + i)))] [])) := c6.trans (st7 _ (Steps.refl _))
      have c9 : Steps p.tables e below (s₁.setTop (entryFrame m #[.ref b, .int (Int32.ofNat o), .ref d, .int (Int32.ofNat q), .int (Int32.ofNat len)] 7)) (T7.setTop (mkF m 3 #[.val (.ref b), .val (.int (Int32.ofNat (o + i) + 1)), .val (.ref d), .val (.int (Int32.ofNat (q + i) + 1)), .val (.int (Int32.ofNat len)), .val (.int (Int32.ofNat i + 1)), .val (.int (cv A (o + i)))] [])) := c8.trans (by
        refine iincV X7.here hexec rfl 1 (hb hbytes d32) (by decide) rfl rfl ?_
        refine iincV X7.here hexec rfl 1 (hb hbytes d35) (by decide) rfl rfl ?_
        refine iincV X7.here hexec rfl 1 (hb hbytes d38) (by decide) rfl rfl ?_
        refine XS.goto X7.here hexec rfl (pc0 := 41) rfl (hb hbytes d41) (by decide) rfl ?_
        exact Steps.refl _)
      have c10 : Steps p.tables e below (s₁.setTop (entryFrame m #[.ref b, .int (Int32.ofNat o), .ref d, .int (Int32.ofNat q), .int (Int32.ofNat len)] 7)) (T7.setTop (mkF m 3 #[.val (.ref b), .val (.int (Int32.ofNat (o + (i + 1)))), .val (.ref d), .val (.int (Int32.ofNat (q + (i + 1)))), .val (.int (Int32.ofNat len)), .val (.int (Int32.ofNat (i + 1))), .val (.int (cv A (o + i)))] [])) := by
        have := c9
        rw [succ32, succ32, succ32] at this
        exact this
      exact ih (i + 1) (by omega) _ (Or.inr ⟨_, rfl, rfl⟩) T7 _ (by rw [copyLocs_step, ← List.append_assoc]; exact X7) (pl.trans p7) (fl.step (by omega) hlt (by simp)) c10
  obtain ⟨T9, B9, z9, X9, p9, f9, g9⟩ := loop len 0 (by omega) .unset (Or.inl rfl) s₁ B (by simpa [copyLocs] using X0) ⟨hB0.1, fun _ _ => rfl, rfl⟩ (Laid.zero _ _ _) c2
  have c11 : Steps p.tables e below (s₁.setTop (entryFrame m #[.ref b, .int (Int32.ofNat o), .ref d, .int (Int32.ofNat q), .int (Int32.ofNat len)] 7)) (T9.setTop (mkF m 46 #[.val (.ref b), .val (.int (Int32.ofNat (o + len))), .val (.ref d), .val (.int (Int32.ofNat (q + len))), .val (.int (Int32.ofNat len)), .val (.int (Int32.ofNat len)), z9] [.int (Int32.ofNat len)])) := g9.trans (by
    refine XS.iload X9.here hexec rfl (hb hbytes d3) rfl ?_
    refine XS.iload X9.here hexec rfl (hb hbytes d5) rfl ?_
    refine XS.icmpYes X9.here hexec rfl (pc0 := 7) rfl (hb hbytes d7) rfl (ii_ge_t (nlt32 (by omega) (Nat.le_refl _))) (by decide) rfl ?_
    refine XS.iload X9.here hexec rfl (hb hbytes d44) rfl ?_
    exact Steps.refl _)
  exact ⟨T9, some (.int (Int32.ofNat len)), _, _, _, X9, by simp, rfl, rfl, (fun h => by cases h), ⟨rfl, B9, p9.from hh0, f9⟩, fun fs hl => c11.trans (X9.ireturnOut hexec hret rfl (Or.inl rfl) (hb hbytes d46) hl)⟩
end Cmp5
namespace Cmp3
def yN : MethodName := ⟨"java/lang/StringUTF16", "compress", "([CII)[B"⟩
abbrev yB : ByteArray := jdk_52_method_16_code
theorem d0 : decode yB 0 = .ok (.iload_n 2, 1) := by decide +kernel
theorem d1 : decode yB 1 = .ok (.newarray .byte, 2) := by decide +kernel
theorem d3 : decode yB 3 = .ok (.astore_n 3, 1) := by decide +kernel
theorem d4 : decode yB 4 = .ok (.aload_n 0, 1) := by decide +kernel
theorem d5 : decode yB 5 = .ok (.iload_n 1, 1) := by decide +kernel
theorem d6 : decode yB 6 = .ok (.aload_n 3, 1) := by decide +kernel
theorem d7 : decode yB 7 = .ok (.iconst 0, 1) := by decide +kernel
theorem d8 : decode yB 8 = .ok (.iload_n 2, 1) := by decide +kernel
theorem d9 : decode yB 9 = .ok (.invokestatic 115, 3) := by decide +kernel
theorem d12 : decode yB 12 = .ok (.istore 4, 2) := by decide +kernel
theorem d14 : decode yB 14 = .ok (.iload 4, 2) := by decide +kernel
theorem d16 : decode yB 16 = .ok (.iload_n 2, 1) := by decide +kernel
theorem d17 : decode yB 17 = .ok (.if_icmp (.eq) 40, 3) := by decide +kernel
theorem d57 : decode yB 57 = .ok (.aload_n 3, 1) := by decide +kernel
theorem d58 : decode yB 58 = .ok (.areturn, 1) := by decide +kernel
def site : List Cond := [.arrayClass .byte, Cmp5.tab] ++ staticW U16 115 Cmp5.yN
def tab : Cond := tabOf yN yB 6 (some (.array .byte)) site
def P (b : Addr) (A : Cell) (o len : Nat) (args : Array Value) (s : State) : Prop := args = #[.ref b, .int (Int32.ofNat o), .int (Int32.ofNat len)] ∧ Ch b A s ∧ o + len ≤ A.slots.size ∧ len ≤ 536870912 ∧ ∀ i, i < len → ¬ 255 < cv A (o + i)
def E (b : Addr) (A : Cell) (o len : Nat) (r : Option Value) (s u : State) : Prop := NewArr .byte "[B" len (fun j => .int (lo8 (cv A (o + j)))) r s u ∧ u.heap.size = s.heap.size + 1
/-- no char of the range above 255: a new byte[] of their low bytes -/
theorem law (l : Launch) (b : Addr) (A : Cell) (o len : Nat) : Law l yN 3 3 1 18 yB 6 (some (.array .byte)) site (P b A o len) (E b A o len) [] 1 len := by
  refine Law.of_walk (plainFor_of_name (by decide +kernel)) (by decide +kernel) (by decide +kernel) (by decide) (fun _ _ h => by rw [h.1]; rfl) (fun _ U U' hal hh h => ⟨h.1, h.2.1.mv hal hh, h.2.2⟩) (fun r U U' V V' h1 hal h2 h => ⟨NewArr.mv r U U' V V' h1 hal h2 h.1, by rw [h1, h2]; exact h.2⟩) ?_
  intro p e s m args below meth c s₁ X0 hexec hbytes hml hret hlk hnm hown hh0 W hP
  obtain ⟨rfl, hA, l1, l2, hp⟩ := hP
  have a31 := hA.1.2.2.2
  have c1 : Steps p.tables e below (s₁.setTop (entryFrame m #[.ref b, .int (Int32.ofNat o), .int (Int32.ofNat len)] 6)) (s₁.setTop (mkF m 0 #[.val (.ref b), .val (.int (Int32.ofNat o)), .val (.int (Int32.ofNat len)), .unset, .unset, .unset] [])) := entry rfl
  have c2 : Steps p.tables e below (s₁.setTop (entryFrame m #[.ref b, .int (Int32.ofNat o), .int (Int32.ofNat len)] 6)) (s₁.setTop (mkF m 1 #[.val (.ref b), .val (.int (Int32.ofNat o)), .val (.int (Int32.ofNat len)), .unset, .unset, .unset] [.int (Int32.ofNat len)])) := c1.trans (by
    refine XS.iloadN X0.here hexec rfl (hb hbytes d0) rfl ?_
    exact Steps.refl _)
  obtain ⟨T3, B3, X3, ba3, bs3, bv3, bh3, bf3, st3⟩ := X0.anew hexec (atype := .byte) (wk W (.arrayClass .byte)) rfl (by show len * 1 ≤ _; omega) (by omega) (g := (mkF m 1 #[.val (.ref b), .val (.int (Int32.ofNat o)), .val (.int (Int32.ofNat len)), .unset, .unset, .unset] [.int (Int32.ofNat len)])) rfl (hb hbytes d1) (rest := []) rfl (Nat.le_refl _) (by show 0 + len ≤ len; omega)
  rw [hh0] at ba3 st3
  have kp3 : XT.Kept s T3 := (XT.Kept.of_eq hh0).push bh3
  have hA3 := hA.keep X3.warmed.alike (kp3 _ _ hA.1.1)
  have hne : b ≠ s.heap.size := hA.1.ne
  have c4 : Steps p.tables e below (s₁.setTop (entryFrame m #[.ref b, .int (Int32.ofNat o), .int (Int32.ofNat len)] 6)) (T3.setTop (mkF m 3 #[.val (.ref b), .val (.int (Int32.ofNat o)), .val (.int (Int32.ofNat len)), .unset, .unset, .unset] [.ref s.heap.size])) := c2.trans (st3 _ (Steps.refl _))
  have c5 : Steps p.tables e below (s₁.setTop (entryFrame m #[.ref b, .int (Int32.ofNat o), .int (Int32.ofNat len)] 6)) (T3.setTop (mkF m 9 #[.val (.ref b), .val (.int (Int32.ofNat o)), .val (.int (Int32.ofNat len)), .val (.ref s.heap.size), .unset, .unset] [.int (Int32.ofNat len), .int 0, .ref s.heap.size, .int (Int32.ofNat o), .ref b])) := c4.trans (by
    refine XS.astoreN X3.here hexec rfl (hb hbytes d3) rfl rfl rfl ?_
    refine XS.aloadN X3.here hexec rfl (hb hbytes d4) rfl rfl ?_
    refine XS.iloadN X3.here hexec rfl (hb hbytes d5) rfl ?_
    refine XS.aloadN X3.here hexec rfl (hb hbytes d6) rfl rfl ?_
    refine iconstV X3.here hexec rfl 0 (hb hbytes d7) (by decide) ?_
    refine XS.iloadN X3.here hexec rfl (hb hbytes d8) rfl ?_
    exact Steps.refl _)
  obtain ⟨v6, T6, X6, E6, g6⟩ := X3.callS hexec (Cmp5.law l b A s.heap.size B3 o 0 len) hown (wks W (staticW U16 115 Cmp5.yN)) (wk W Cmp5.tab) (W := 0) (Nat.le_of_ble_eq_true rfl) (Nat.le_of_ble_eq_true rfl) (Nat.le_refl _) (by show 0 + len + 0 ≤ len; omega) (g := (mkF m 9 #[.val (.ref b), .val (.int (Int32.ofNat o)), .val (.int (Int32.ofNat len)), .val (.ref s.heap.size), .unset, .unset] [.int (Int32.ofNat len), .int (Int32.ofNat 0), .ref s.heap.size, .int (Int32.ofNat o), .ref b])) rfl (by rw [hml]; rfl) c5 (argsL := [.ref b, .int (Int32.ofNat o), .ref s.heap.size, .int (Int32.ofNat 0), .int (Int32.ofNat len)]) (rest := []) rfl rfl (by show 2 * 0 + 0 ≤ _; decide) (hb hbytes d9) (⟨rfl, hA3, ba3, hne, l1, by rw [bs3]; simp, hp⟩)
  obtain ⟨rfl, B6, p6, f6⟩ := E6
  have c7 : Steps p.tables e below (s₁.setTop (entryFrame m #[.ref b, .int (Int32.ofNat o), .int (Int32.ofNat len)] 6)) (T6.setTop (mkF m 12 #[.val (.ref b), .val (.int (Int32.ofNat o)), .val (.int (Int32.ofNat len)), .val (.ref s.heap.size), .unset, .unset] [.int (Int32.ofNat len)])) := g6
  have c8 : Steps p.tables e below (s₁.setTop (entryFrame m #[.ref b, .int (Int32.ofNat o), .int (Int32.ofNat len)] 6)) (T6.setTop (mkF m 58 #[.val (.ref b), .val (.int (Int32.ofNat o)), .val (.int (Int32.ofNat len)), .val (.ref s.heap.size), .val (.int (Int32.ofNat len)), .unset] [.ref s.heap.size])) := c7.trans (by
    refine XS.istore X6.here hexec rfl (hb hbytes d12) rfl rfl ?_
    refine XS.iload X6.here hexec rfl (hb hbytes d14) rfl ?_
    refine XS.iloadN X6.here hexec rfl (hb hbytes d16) rfl ?_
    refine XS.icmpYes X6.here hexec rfl (pc0 := 17) rfl (hb hbytes d17) rfl (ii_eq_t rfl) (by decide) rfl ?_
    refine XS.aloadN X6.here hexec rfl (hb hbytes d57) rfl rfl ?_
    exact Steps.refl _)
  have X8 := X6.wide (L' := []) (cells' := 1) (slots' := len) (fun x hx hlt => by
    simp only [List.nil_append, copyLocs, List.mem_map, List.mem_range] at hx
    obtain ⟨i, -, rfl⟩ := hx
    exact absurd hlt (Nat.lt_irrefl _)) (Nat.le_refl _) (by omega)
  exact ⟨T6, some (.ref s.heap.size), _, _, _, X8, rfl, rfl, rfl, (fun h => by cases h), ⟨⟨rfl, B6, ba3.like (X3.warmed.alike.symm.trans X6.warmed.alike) p6.1 f6.1 f6.2.1 f6.2.2.1, f6.2.1.trans bv3, by rw [X6.warmed.alike.findClass, f6.1]; exact bf3, by rw [f6.2.2.1, bs3]; simp, fun j hj => by rw [f6.2.2.2 j, if_pos (by omega)]; rfl, kp3.put p6 (Nat.le_refl _)⟩, by rw [p6.2.2, bh3, hh0]; simp⟩, fun fs hl => c8.trans (X8.areturnOut hexec rfl hret rfl (hb hbytes d58) hl)⟩
end Cmp3
namespace CodL
def yN : MethodName := ⟨"java/lang/StringUTF16", "coderFromArrayLen", "([BI)B"⟩
abbrev yB : ByteArray := jdk_52_method_15_code
theorem d0 : decode yB 0 = .ok (.iload_n 1, 1) := by decide +kernel
theorem d1 : decode yB 1 = .ok (.aload_n 0, 1) := by decide +kernel
theorem d2 : decode yB 2 = .ok (.arraylength, 1) := by decide +kernel
theorem d3 : decode yB 3 = .ok (.isub, 1) := by decide +kernel
theorem d4 : decode yB 4 = .ok (.bipush 31, 2) := by decide +kernel
theorem d6 : decode yB 6 = .ok (.iushr, 1) := by decide +kernel
theorem d7 : decode yB 7 = .ok (.i2b, 1) := by decide +kernel
theorem d8 : decode yB 8 = .ok (.ireturn, 1) := by decide +kernel
def site : List Cond := []
def tab : Cond := tabOf yN yB 2 (some .byte) site
def P (d : Addr) (B : Cell) (args : Array Value) (s : State) : Prop := args = #[.ref d, .int (Int32.ofNat B.slots.size)] ∧ Arr .byte d B s
def E (r : Option Value) (s u : State) : Prop := XT.PureE (some (.int 0)) r s u
/-- an array as long as the number of chars: LATIN1 -/
theorem law (l : Launch) (d : Addr) (B : Cell) : Law l yN 2 2 0 0 yB 2 (some .byte) site (P d B) E [] 0 0 := by
  refine Law.of_walk (plainFor_of_name (by decide +kernel)) (by decide +kernel) (by decide +kernel) (by decide) (fun _ _ h => by rw [h.1]; rfl) (fun _ U U' hal hh h => ⟨h.1, h.2.mv hal hh⟩) (fun r U U' V V' h1 hal h2 h => XT.PureE.mv r U U' V V' h1 hal h2 h) ?_
  intro p e s m args below meth c s₁ X0 hexec hbytes hml hret hlk hnm hown hh0 W hP
  obtain ⟨rfl, hB⟩ := hP
  have hB0 := hB.mv X0.warmed.alike hh0
  have c1 : Steps p.tables e below (s₁.setTop (entryFrame m #[.ref d, .int (Int32.ofNat B.slots.size)] 2)) (s₁.setTop (mkF m 0 #[.val (.ref d), .val (.int (Int32.ofNat B.slots.size))] [])) := entry rfl
  have c2 : Steps p.tables e below (s₁.setTop (entryFrame m #[.ref d, .int (Int32.ofNat B.slots.size)] 2)) (s₁.setTop (mkF m 2 #[.val (.ref d), .val (.int (Int32.ofNat B.slots.size))] [.ref d, .int (Int32.ofNat B.slots.size)])) := c1.trans (by
    refine XS.iloadN X0.here hexec rfl (hb hbytes d0) rfl ?_
    refine XS.aloadN X0.here hexec rfl (hb hbytes d1) rfl rfl ?_
    exact Steps.refl _)
  have c3 : Steps p.tables e below (s₁.setTop (entryFrame m #[.ref d, .int (Int32.ofNat B.slots.size)] 2)) (s₁.setTop (mkF m 8 #[.val (.ref d), .val (.int (Int32.ofNat B.slots.size))] [.int (lo8 (ushr (Int32.ofNat B.slots.size - Int32.ofNat B.slots.size) 31))])) := c2.trans (by
    refine X0.alen hexec hB0 rfl rfl (hb hbytes d2) ?_
    refine XS.isub X0.here hexec rfl (hb hbytes d3) rfl ?_
    refine bipushV X0.here hexec rfl 31 (hb hbytes d4) (by decide) ?_
    refine iushr X0.here hexec rfl (hb hbytes d6) rfl ?_
    refine i2b X0.here hexec rfl (hb hbytes d7) rfl ?_
    exact Steps.refl _)
  have e0 : lo8 (ushr (Int32.ofNat B.slots.size - Int32.ofNat B.slots.size) 31) = 0 := by rw [Int32.sub_self]; decide
  rw [e0] at c3
  exact ⟨s₁, some (.int 0), _, _, _, X0, rfl, rfl, rfl, (fun h => by cases h), ⟨rfl, hh0⟩, fun fs hl => c3.trans (X0.ireturnOut hexec hret rfl (Or.inr (Or.inr (Or.inl rfl))) (hb hbytes d8) hl)⟩
end CodL
/-- the String at a is Latin-1 over a new byte[] (the heap's one new cell): the low bytes of the len chars of A from o on; every cell but a is kept -/
def Got (a : Addr) (D : Cell) (fV fC : Field) (A : Cell) (o len : Nat) (r : Option Value) (s u : State) : Prop := r = none ∧ ∃ D' V : Cell, Blank "java/lang/String" a D' u ∧ Same D D' [fV.slot, fC.slot] ∧ D'.slots[fV.slot]? = some (.ref s.heap.size) ∧ D'.slots[fC.slot]? = some (.int 0) ∧ Arr .byte s.heap.size V u ∧ V.vm = .none ∧ u.vm.findClass "[B" = some V.cls ∧ V.slots.size = len ∧ (∀ j, j < len → V.slots[j]? = some (.int (lo8 (cv A (o + j))))) ∧ (∀ (y : Addr) (c : Cell), y ≠ a → s.heap[y]? = some c → u.heap[y]? = some c) ∧ u.heap.size = s.heap.size + 1
theorem Got.mv {a : Addr} {D A : Cell} {fV fC : Field} {o len : Nat} : ∀ r (U U' V V' : State), U'.heap = U.heap → V.vm.Alike V'.vm → V'.heap = V.heap → Got a D fV fC A o len r U V → Got a D fV fC A o len r U' V' :=
  fun r U U' V V' h1 hal h2 ⟨e0, D', X, a1, a2, a3, a4, a5, a6, a7, a8, a9, a10, a11⟩ => ⟨e0, D', X, a1.mv hal h2, a2, by rw [h1]; exact a3, a4, by rw [h1]; exact a5.mv hal h2, a6, by rw [hal.findClass]; exact a7, a8, a9, by rw [h1, h2]; exact a10, by rw [h1, h2]; exact a11⟩
namespace New4
def yN : MethodName := ⟨"java/lang/String", "<init>", "([CIILjava/lang/Void;)V"⟩
abbrev yB : ByteArray := jdk_42_method_149_code
theorem d0 : decode yB 0 = .ok (.aload_n 0, 1) := by decide +kernel
theorem d1 : decode yB 1 = .ok (.invokespecial 1, 3) := by decide +kernel
theorem d4 : decode yB 4 = .ok (.iload_n 3, 1) := by decide +kernel
theorem d5 : decode yB 5 = .ok (.ifCond (.ne) 22, 3) := by decide +kernel
theorem d27 : decode yB 27 = .ok (.getstatic 38, 3) := by decide +kernel
theorem d30 : decode yB 30 = .ok (.ifCond (.eq) 28, 3) := by decide +kernel
theorem d33 : decode yB 33 = .ok (.aload_n 1, 1) := by decide +kernel
theorem d34 : decode yB 34 = .ok (.iload_n 2, 1) := by decide +kernel
theorem d35 : decode yB 35 = .ok (.iload_n 3, 1) := by decide +kernel
theorem d36 : decode yB 36 = .ok (.invokestatic 177, 3) := by decide +kernel
theorem d39 : decode yB 39 = .ok (.astore 5, 2) := by decide +kernel
theorem d41 : decode yB 41 = .ok (.aload_n 0, 1) := by decide +kernel
theorem d42 : decode yB 42 = .ok (.aload 5, 2) := by decide +kernel
theorem d44 : decode yB 44 = .ok (.iload_n 3, 1) := by decide +kernel
theorem d45 : decode yB 45 = .ok (.invokestatic 47, 3) := by decide +kernel
theorem d48 : decode yB 48 = .ok (.putfield 15, 3) := by decide +kernel
theorem d51 : decode yB 51 = .ok (.aload_n 0, 1) := by decide +kernel
theorem d52 : decode yB 52 = .ok (.aload 5, 2) := by decide +kernel
theorem d54 : decode yB 54 = .ok (.putfield 9, 3) := by decide +kernel
theorem d57 : decode yB 57 = .ok (.return_, 1) := by decide +kernel
def site : List Cond := [.fieldLink "java/lang/String" 38 "java/lang/String" "COMPACT_STRINGS" "Z", Cmp3.tab, CodL.tab, .laysFinal "java/lang/String" "java/lang/String" "value" "[B", .fieldLink "java/lang/String" 9 "java/lang/String" "value" "[B", .laysFinal "java/lang/String" "java/lang/String" "coder" "B", .fieldLink "java/lang/String" 15 "java/lang/String" "coder" "B"] ++ objW "java/lang/String" 1 ++ staticW "java/lang/String" 177 Cmp3.yN ++ staticW "java/lang/String" 47 CodL.yN
def tab : Cond := tabOf yN yB 6 none site
def P (a : Addr) (D : Cell) (fV fC : Field) (b : Addr) (A : Cell) (z : Int32) (o len : Nat) (args : Array Value) (s : State) : Prop := args = #[.ref a, .ref b, .int (Int32.ofNat o), .int (Int32.ofNat len), .null] ∧ Blank "java/lang/String" a D s ∧ Found "java/lang/String" "value" "[B" fV s ∧ Found "java/lang/String" "coder" "B" fC s ∧ Ch b A s ∧ StaticIs s "java/lang/String" "COMPACT_STRINGS" "Z" (.int z) ∧ ¬ z = 0 ∧ 0 < len ∧ o + len ≤ A.slots.size ∧ len ≤ 536870912 ∧ ∀ i, i < len → ¬ 255 < cv A (o + i)
def E (a : Addr) (D : Cell) (fV fC : Field) (A : Cell) (o len : Nat) (r : Option Value) (s u : State) : Prop := Got a D fV fC A o len r s u
/-- len > 0, no char of the range above 255: a Latin-1 String of their low bytes -/
theorem law (l : Launch) (a : Addr) (D : Cell) (fV fC : Field) (b : Addr) (A : Cell) (z : Int32) (o len : Nat) : Law l yN 5 4 2 35 yB 6 none site (P a D fV fC b A z o len) (E a D fV fC A o len) [⟨a, fC.slot⟩, ⟨a, fV.slot⟩] 1 len := by
  refine Law.of_walk (plainFor_of_name (by decide +kernel)) (by decide +kernel) (by decide +kernel) (by decide) (fun _ _ h => by rw [h.1]; rfl) (fun _ U U' hal hh h => ⟨h.1, h.2.1.mv hal hh, h.2.2.1.al hal, h.2.2.2.1.al hal, h.2.2.2.2.1.mv hal hh, h.2.2.2.2.2.1.there hal hh, h.2.2.2.2.2.2⟩) (fun r U U' V V' h1 hal h2 h => Got.mv r U U' V V' h1 hal h2 h) ?_
  intro p e s m args below meth c s₁ X0 hexec hbytes hml hret hlk hnm hown hh0 W hP
  obtain ⟨rfl, hB, f1, f2, hA, s1, hz, l0, l1, l2, hp⟩ := hP
  have a31 := hA.1.2.2.2
  have c1 : Steps p.tables e below (s₁.setTop (entryFrame m #[.ref a, .ref b, .int (Int32.ofNat o), .int (Int32.ofNat len), .null] 6)) (s₁.setTop (mkF m 0 #[.val (.ref a), .val (.ref b), .val (.int (Int32.ofNat o)), .val (.int (Int32.ofNat len)), .val .null, .unset] [])) := entry rfl
  have c2 : Steps p.tables e below (s₁.setTop (entryFrame m #[.ref a, .ref b, .int (Int32.ofNat o), .int (Int32.ofNat len), .null] 6)) (s₁.setTop (mkF m 1 #[.val (.ref a), .val (.ref b), .val (.int (Int32.ofNat o)), .val (.int (Int32.ofNat len)), .val .null, .unset] [.ref a])) := c1.trans (by
    refine XS.aloadN X0.here hexec rfl (hb hbytes d0) rfl rfl ?_
    exact Steps.refl _)
  obtain ⟨T3, X3, q3, st3⟩ := X0.oinit hexec hown (wks W (objW "java/lang/String" 1)) (g := (mkF m 1 #[.val (.ref a), .val (.ref b), .val (.int (Int32.ofNat o)), .val (.int (Int32.ofNat len)), .val .null, .unset] [.ref a])) rfl (by rw [hml]; rfl) (rest := []) rfl (hb hbytes d1) (W := 0) (by show 2 * 0 + 0 ≤ _; decide) (Nat.le_of_ble_eq_true rfl) (Nat.le_of_ble_eq_true rfl)
  have hh3 := q3.trans hh0
  have c4 : Steps p.tables e below (s₁.setTop (entryFrame m #[.ref a, .ref b, .int (Int32.ofNat o), .int (Int32.ofNat len), .null] 6)) (T3.setTop (mkF m 27 #[.val (.ref a), .val (.ref b), .val (.int (Int32.ofNat o)), .val (.int (Int32.ofNat len)), .val .null, .unset] [])) := (c2.trans (st3 _ (Steps.refl _))).trans (by
    refine XS.iloadN X3.here hexec rfl (hb hbytes d4) rfl ?_
    refine XS.ifYes X3.here hexec rfl (pc0 := 5) rfl (hb hbytes d5) rfl (i0_ne_t (nz32 (by omega) l0)) (by decide) rfl ?_
    exact Steps.refl _)
  obtain ⟨T5, X5, q5, st5⟩ := X3.sget hexec hown (wk W (.fieldLink "java/lang/String" 38 "java/lang/String" "COMPACT_STRINGS" "Z")) s1 (fun _ _ h => by rw [hh3]; exact h) (g := (mkF m 27 #[.val (.ref a), .val (.ref b), .val (.int (Int32.ofNat o)), .val (.int (Int32.ofNat len)), .val .null, .unset] [])) rfl (hb hbytes d27)
  have hh5 := q5.trans hh3
  have c6 : Steps p.tables e below (s₁.setTop (entryFrame m #[.ref a, .ref b, .int (Int32.ofNat o), .int (Int32.ofNat len), .null] 6)) (T5.setTop (mkF m 30 #[.val (.ref a), .val (.ref b), .val (.int (Int32.ofNat o)), .val (.int (Int32.ofNat len)), .val .null, .unset] [.int z])) := c4.trans (st5 _ (Steps.refl _))
  have c7 : Steps p.tables e below (s₁.setTop (entryFrame m #[.ref a, .ref b, .int (Int32.ofNat o), .int (Int32.ofNat len), .null] 6)) (T5.setTop (mkF m 36 #[.val (.ref a), .val (.ref b), .val (.int (Int32.ofNat o)), .val (.int (Int32.ofNat len)), .val .null, .unset] [.int (Int32.ofNat len), .int (Int32.ofNat o), .ref b])) := c6.trans (by
    refine XS.ifNo X5.here hexec rfl (hb hbytes d30) rfl (i0_eq_f hz) ?_
    refine XS.aloadN X5.here hexec rfl (hb hbytes d33) rfl rfl ?_
    refine XS.iloadN X5.here hexec rfl (hb hbytes d34) rfl ?_
    refine XS.iloadN X5.here hexec rfl (hb hbytes d35) rfl ?_
    exact Steps.refl _)
  obtain ⟨v8, T8, X8, E8, g8⟩ := X5.callS hexec (Cmp3.law l b A o len) hown (wks W (staticW "java/lang/String" 177 Cmp3.yN)) (wk W Cmp3.tab) (W := 0) (Nat.le_of_ble_eq_true rfl) (Nat.le_of_ble_eq_true rfl) (Nat.le_refl _) (by show 0 + len ≤ len; omega) (g := (mkF m 36 #[.val (.ref a), .val (.ref b), .val (.int (Int32.ofNat o)), .val (.int (Int32.ofNat len)), .val .null, .unset] [.int (Int32.ofNat len), .int (Int32.ofNat o), .ref b])) rfl (by rw [hml]; rfl) c7 (argsL := [.ref b, .int (Int32.ofNat o), .int (Int32.ofNat len)]) (rest := []) rfl rfl (by show 2 * 0 + 0 ≤ _; decide) (hb hbytes d36) (⟨rfl, hA.mv X5.warmed.alike hh5, l1, l2, hp⟩)
  obtain ⟨e8, z8⟩ := E8
  obtain ⟨rfl, N, n1, n2, n3, n4, n5, n6⟩ := NewArr.mv _ T5 s _ _ hh5.symm (Vm.Alike.refl _) rfl e8
  rw [hh5] at z8
  have hB1 := hB.keep X8.warmed.alike (n6 _ _ hB.1)
  have hne : s.heap.size ≠ a := (Nat.ne_of_lt (Array.getElem?_eq_some_iff.mp hB.1).1).symm
  have c9 : Steps p.tables e below (s₁.setTop (entryFrame m #[.ref a, .ref b, .int (Int32.ofNat o), .int (Int32.ofNat len), .null] 6)) (T8.setTop (mkF m 39 #[.val (.ref a), .val (.ref b), .val (.int (Int32.ofNat o)), .val (.int (Int32.ofNat len)), .val .null, .unset] [.ref s.heap.size])) := g8
  have c10 : Steps p.tables e below (s₁.setTop (entryFrame m #[.ref a, .ref b, .int (Int32.ofNat o), .int (Int32.ofNat len), .null] 6)) (T8.setTop (mkF m 45 #[.val (.ref a), .val (.ref b), .val (.int (Int32.ofNat o)), .val (.int (Int32.ofNat len)), .val .null, .val (.ref s.heap.size)] [.int (Int32.ofNat N.slots.size), .ref s.heap.size, .ref a])) := by
    have hc : Steps p.tables e below (s₁.setTop (entryFrame m #[.ref a, .ref b, .int (Int32.ofNat o), .int (Int32.ofNat len), .null] 6)) (T8.setTop (mkF m 45 #[.val (.ref a), .val (.ref b), .val (.int (Int32.ofNat o)), .val (.int (Int32.ofNat len)), .val .null, .val (.ref s.heap.size)] [.int (Int32.ofNat len), .ref s.heap.size, .ref a])) := c9.trans (by
      refine XS.astore X8.here hexec rfl (hb hbytes d39) rfl rfl rfl ?_
      refine XS.aloadN X8.here hexec rfl (hb hbytes d41) rfl rfl ?_
      refine XS.aload X8.here hexec rfl (hb hbytes d42) rfl rfl ?_
      refine XS.iloadN X8.here hexec rfl (hb hbytes d44) rfl ?_
      exact Steps.refl _)
    rw [n4]; exact hc
  obtain ⟨v11, T11, X11, E11, g11⟩ := X8.callS hexec (CodL.law l s.heap.size N) hown (wks W (staticW "java/lang/String" 47 CodL.yN)) (wk W CodL.tab) (W := 1) (Nat.le_of_ble_eq_true rfl) (Nat.le_of_ble_eq_true rfl) (Nat.le_refl _) (by show 0 + len + 0 ≤ len; omega) (g := (mkF m 45 #[.val (.ref a), .val (.ref b), .val (.int (Int32.ofNat o)), .val (.int (Int32.ofNat len)), .val .null, .val (.ref s.heap.size)] [.int (Int32.ofNat N.slots.size), .ref s.heap.size, .ref a])) rfl (by rw [hml]; rfl) c10 (argsL := [.ref s.heap.size, .int (Int32.ofNat N.slots.size)]) (rest := [.ref a]) rfl rfl (by show 2 * 0 + (1 + 0) ≤ _; decide) (hb hbytes d45) (⟨rfl, n1⟩)
  obtain ⟨rfl, q11⟩ := E11
  have hB11 := hB1.mv (X8.warmed.alike.symm.trans X11.warmed.alike) q11
  have c12 : Steps p.tables e below (s₁.setTop (entryFrame m #[.ref a, .ref b, .int (Int32.ofNat o), .int (Int32.ofNat len), .null] 6)) (T11.setTop (mkF m 48 #[.val (.ref a), .val (.ref b), .val (.int (Int32.ofNat o)), .val (.int (Int32.ofNat len)), .val .null, .val (.ref s.heap.size)] [.int 0, .ref a])) := g11
  obtain ⟨T13, X13, p13, bl13, sl13, st13⟩ := X11.finit hexec hown (wk W (.fieldLink "java/lang/String" 15 "java/lang/String" "coder" "B")) (Or.inr ⟨_, (wk W (.laysFinal "java/lang/String" "java/lang/String" "coder" "B"))⟩) (Or.inl ⟨rfl, hnm⟩) f2 (Or.inl rfl) hB11 (t := .byte) (by decide +kernel) rfl (g := (mkF m 48 #[.val (.ref a), .val (.ref b), .val (.int (Int32.ofNat o)), .val (.int (Int32.ofNat len)), .val .null, .val (.ref s.heap.size)] [.int 0, .ref a])) rfl (rest := []) rfl (hb hbytes d48)
  have c14 : Steps p.tables e below (s₁.setTop (entryFrame m #[.ref a, .ref b, .int (Int32.ofNat o), .int (Int32.ofNat len), .null] 6)) (T13.setTop (mkF m 54 #[.val (.ref a), .val (.ref b), .val (.int (Int32.ofNat o)), .val (.int (Int32.ofNat len)), .val .null, .val (.ref s.heap.size)] [.ref s.heap.size, .ref a])) := (c12.trans (st13 _ (Steps.refl _))).trans (by
    refine XS.aloadN X13.here hexec rfl (hb hbytes d51) rfl rfl ?_
    refine XS.aload X13.here hexec rfl (hb hbytes d52) rfl rfl ?_
    exact Steps.refl _)
  obtain ⟨T15, X15, p15, bl15, sl15, st15⟩ := X13.finit hexec hown (wk W (.fieldLink "java/lang/String" 9 "java/lang/String" "value" "[B")) (Or.inr ⟨_, (wk W (.laysFinal "java/lang/String" "java/lang/String" "value" "[B"))⟩) (Or.inl ⟨rfl, hnm⟩) f1 (Or.inl rfl) bl13 (t := (.array .byte)) (by decide +kernel) rfl (g := (mkF m 54 #[.val (.ref a), .val (.ref b), .val (.int (Int32.ofNat o)), .val (.int (Int32.ofNat len)), .val .null, .val (.ref s.heap.size)] [.ref s.heap.size, .ref a])) rfl (rest := []) rfl (hb hbytes d54)
  have c16 : Steps p.tables e below (s₁.setTop (entryFrame m #[.ref a, .ref b, .int (Int32.ofNat o), .int (Int32.ofNat len), .null] 6)) (T15.setTop (mkF m 57 #[.val (.ref a), .val (.ref b), .val (.int (Int32.ofNat o)), .val (.int (Int32.ofNat len)), .val .null, .val (.ref s.heap.size)] [])) := c14.trans (st15 _ (Steps.refl _))
  have ap := apart (Or.inr ⟨_, (wk W (.laysFinal "java/lang/String" "java/lang/String" "value" "[B"))⟩) (Or.inr ⟨_, (wk W (.laysFinal "java/lang/String" "java/lang/String" "coder" "B"))⟩) f1 f2 (t₁ := .array .byte) (t₂ := .byte) (by decide +kernel) (by decide +kernel) (by decide)
  have al := X8.warmed.alike.symm.trans X15.warmed.alike
  have n7 : T11.heap[s.heap.size]? = some N := by rw [q11]; exact n1.1
  exact ⟨T15, none, _, _, _, X15, by simp, rfl, by omega, (fun _ => rfl), ⟨rfl, _, N, bl15, ((Same.refl D _).set _ (by simp)).set _ (by simp), sl15, (Cell.slots_setSlot_ne _ ap).trans sl13, n1.keep al (p15.other hne (p13.other hne n7)), n2, by rw [al.findClass]; exact n3, n4, n5, fun y c h1 h2 => p15.other h1 (p13.other h1 (by rw [q11]; exact n6 y c h2)), by rw [p15.2.2, p13.2.2, q11]; exact z8⟩, fun fs hl => c16.trans (X15.returnOut hexec hret (hb hbytes d57) hl)⟩
end New4
namespace New1
def yN : MethodName := ⟨"java/lang/String", "<init>", "([C)V"⟩
abbrev yB : ByteArray := jdk_42_method_3_code
theorem d0 : decode yB 0 = .ok (.aload_n 0, 1) := by decide +kernel
theorem d1 : decode yB 1 = .ok (.aload_n 1, 1) := by decide +kernel
theorem d2 : decode yB 2 = .ok (.iconst 0, 1) := by decide +kernel
theorem d3 : decode yB 3 = .ok (.aload_n 1, 1) := by decide +kernel
theorem d4 : decode yB 4 = .ok (.arraylength, 1) := by decide +kernel
theorem d5 : decode yB 5 = .ok (.aconst_null, 1) := by decide +kernel
theorem d6 : decode yB 6 = .ok (.invokespecial 27, 3) := by decide +kernel
theorem d9 : decode yB 9 = .ok (.return_, 1) := by decide +kernel
def site : List Cond := [New4.tab] ++ initW "java/lang/String" 27 New4.yN
def tab : Cond := tabOf yN yB 2 none site
def P (a : Addr) (D : Cell) (fV fC : Field) (b : Addr) (A : Cell) (z : Int32) (args : Array Value) (s : State) : Prop := args = #[.ref a, .ref b] ∧ Blank "java/lang/String" a D s ∧ Found "java/lang/String" "value" "[B" fV s ∧ Found "java/lang/String" "coder" "B" fC s ∧ Ch b A s ∧ StaticIs s "java/lang/String" "COMPACT_STRINGS" "Z" (.int z) ∧ ¬ z = 0 ∧ 0 < A.slots.size ∧ A.slots.size ≤ 536870912 ∧ ∀ i, i < A.slots.size → ¬ 255 < cv A i
def E (a : Addr) (D : Cell) (fV fC : Field) (A : Cell) (r : Option Value) (s u : State) : Prop := Got a D fV fC A 0 A.slots.size r s u
/-- new String(chars), not empty, no char above 255: a Latin-1 String of their low bytes -/
theorem law (l : Launch) (a : Addr) (D : Cell) (fV fC : Field) (b : Addr) (A : Cell) (z : Int32) : Law l yN 2 1 3 52 yB 2 none site (P a D fV fC b A z) (E a D fV fC A) [⟨a, fC.slot⟩, ⟨a, fV.slot⟩] 1 A.slots.size := by
  refine Law.of_walk (plainFor_of_name (by decide +kernel)) (by decide +kernel) (by decide +kernel) (by decide) (fun _ _ h => by rw [h.1]; rfl) (fun _ U U' hal hh h => ⟨h.1, h.2.1.mv hal hh, h.2.2.1.al hal, h.2.2.2.1.al hal, h.2.2.2.2.1.mv hal hh, h.2.2.2.2.2.1.there hal hh, h.2.2.2.2.2.2⟩) (fun r U U' V V' h1 hal h2 h => Got.mv r U U' V V' h1 hal h2 h) ?_
  intro p e s m args below meth c s₁ X0 hexec hbytes hml hret hlk hnm hown hh0 W hP
  obtain ⟨rfl, hB, f1, f2, hA, s1, hz, l0, l2, hp⟩ := hP
  have c1 : Steps p.tables e below (s₁.setTop (entryFrame m #[.ref a, .ref b] 2)) (s₁.setTop (mkF m 0 #[.val (.ref a), .val (.ref b)] [])) := entry rfl
  have c2 : Steps p.tables e below (s₁.setTop (entryFrame m #[.ref a, .ref b] 2)) (s₁.setTop (mkF m 6 #[.val (.ref a), .val (.ref b)] [.null, .int (Int32.ofNat A.slots.size), .int 0, .ref b, .ref a])) := c1.trans (by
    refine XS.aloadN X0.here hexec rfl (hb hbytes d0) rfl rfl ?_
    refine XS.aloadN X0.here hexec rfl (hb hbytes d1) rfl rfl ?_
    refine iconstV X0.here hexec rfl 0 (hb hbytes d2) (by decide) ?_
    refine XS.aloadN X0.here hexec rfl (hb hbytes d3) rfl rfl ?_
    refine X0.alen hexec (hA.1.mv X0.warmed.alike hh0) rfl rfl (hb hbytes d4) ?_
    refine XS.aconstNull X0.here hexec rfl (hb hbytes d5) ?_
    exact Steps.refl _)
  obtain ⟨v3, T3, X3, E3, g3⟩ := X0.callN hexec (New4.law l a D fV fC b A z 0 A.slots.size) rfl hown (wks W (initW "java/lang/String" 27 New4.yN)) (W New4.tab (by simp only [site, List.mem_cons, List.mem_append, true_or, or_true])) (W := 0) (Nat.le_of_ble_eq_true rfl) (Nat.le_of_ble_eq_true rfl) (Nat.le_refl _) (by show 0 + A.slots.size ≤ A.slots.size; omega) (g := (mkF m 6 #[.val (.ref a), .val (.ref b)] [.null, .int (Int32.ofNat A.slots.size), .int (Int32.ofNat 0), .ref b, .ref a])) rfl (by rw [hml]; rfl) c2 (argsL := [.ref b, .int (Int32.ofNat 0), .int (Int32.ofNat A.slots.size), .null]) (rest := []) rfl rfl (by show 2 * 0 + 0 ≤ _; decide) (hb hbytes d6) (⟨rfl, hB.mv X0.warmed.alike hh0, f1.al X0.warmed.alike, f2.al X0.warmed.alike, hA.mv X0.warmed.alike hh0, s1.there X0.warmed.alike hh0, hz, l0, by omega, l2, fun i hi => by rw [Nat.zero_add]; exact hp i hi⟩)
  have e0 := Got.mv _ s₁ s _ _ hh0.symm (Vm.Alike.refl _) rfl E3
  obtain rfl := e0.1
  have c4 : Steps p.tables e below (s₁.setTop (entryFrame m #[.ref a, .ref b] 2)) (T3.setTop (mkF m 9 #[.val (.ref a), .val (.ref b)] [])) := g3
  exact ⟨T3, none, _, _, _, X3, by simp, rfl, by omega, (fun _ => rfl), e0, fun fs hl => c4.trans (X3.returnOut hexec hret (hb hbytes d9) hl)⟩
theorem pays {l : Launch} {R : Room} {p : Program} {e : Env} {below : List Frame} {s : State} {sargs : Array Value} {len W : Nat} (a : Addr) (D : Cell) (fV fC : Field) (b : Addr) (A : Cell) (z : Int32) (htab : tab.before sargs s = true) (hfr : 4 ≤ R.frames) (hlo : W + 65 ≤ R.locals) :
    Back l R p e below s sargs yN len W (fun A₁ a₁ => A₁.cells + 1 ≤ R.cells ∧ A₁.slots + A.slots.size ≤ R.slots ∧ P a D fV fC b A z a₁ A₁.U) (fun A₁ _ v₁ B₁ => E a D fV fC A v₁ A₁.U B₁.U ∧ B₁.locs = A₁.locs ++ [⟨a, fC.slot⟩, ⟨a, fV.slot⟩] ∧ B₁.cells = A₁.cells + 1 ∧ B₁.slots = A₁.slots + A.slots.size) :=
  (law l a D fV fC b A z).pays htab hfr (by omega)
end New1
end StrChars
namespace StrChars.Road
open Jvm Sem ClassFile Op Lib Jvm.Stand Jvm.Free Jvm.Free.XT
open Jvm.Lib.Cold (StaticIs)
abbrev ST : String := "java/lang/String"
/-- every table word that New1's law asks, flat -/
abbrev words : List Jvm.Cond := [.code New1.yN New1.yB 2 none, .initialized ST, .methodLink ST 27 New4.yN, .instanceMethod New4.yN,
  .code New4.yN New4.yB 6 none, .fieldLink ST 38 ST "COMPACT_STRINGS" "Z", .laysFinal ST ST "value" "[B", .fieldLink ST 9 ST "value" "[B", .laysFinal ST ST "coder" "B", .fieldLink ST 15 ST "coder" "B",
  .methodLink ST 1 Lib.objectInit, .instanceMethod Lib.objectInit, .code Lib.objectInit ⟨#[0xb1]⟩ 1 none, .methodLink ST 177 Cmp3.yN, .static Cmp3.yN, .methodLink ST 47 CodL.yN, .static CodL.yN,
  .code Cmp3.yN Cmp3.yB 6 (some (.array .byte)), .initialized U16, .arrayClass .byte, .methodLink U16 115 Cmp5.yN, .static Cmp5.yN, .code Cmp5.yN Cmp5.yB 7 (some .int), .code CodL.yN CodL.yB 2 (some .byte)]
theorem tab_of {a : Array Value} {s : State} (h : ∀ w ∈ words, w.before a s = true) : New1.tab.before a s = true := by
  have h5 : Cmp5.tab.before a s = true := unparts (wk h (.code Cmp5.yN Cmp5.yB 7 (some .int))) (wks h (.initialized Cmp5.yN.cls :: Cmp5.site))
  have hc : CodL.tab.before a s = true := unparts (wk h (.code CodL.yN CodL.yB 2 (some .byte))) (wks h (.initialized CodL.yN.cls :: CodL.site))
  have q5 : ∀ w ∈ Cmp5.tab :: words, w.before a s = true := fun w hw => (List.mem_cons.mp hw).elim (fun e => e ▸ h5) (h w)
  have h3 : Cmp3.tab.before a s = true := unparts (wk q5 (.code Cmp3.yN Cmp3.yB 6 (some (.array .byte)))) (wks q5 (.initialized Cmp3.yN.cls :: Cmp3.site))
  have q3 : ∀ w ∈ Cmp3.tab :: CodL.tab :: words, w.before a s = true := fun w hw => (List.mem_cons.mp hw).elim (fun e => e ▸ h3) fun hw => (List.mem_cons.mp hw).elim (fun e => e ▸ hc) (h w)
  have h4 : New4.tab.before a s = true := unparts (wk q3 (.code New4.yN New4.yB 6 none)) (wks q3 (.initialized New4.yN.cls :: New4.site))
  have q4 : ∀ w ∈ New4.tab :: words, w.before a s = true := fun w hw => (List.mem_cons.mp hw).elim (fun e => e ▸ h4) (h w)
  exact unparts (wk q4 (.code New1.yN New1.yB 2 none)) (wks q4 (.initialized New1.yN.cls :: New1.site))
/-- the words ride from the start Z to the walk's own state -/
theorem moved {Z s : State} {a0 args : Array Value} (hZ : Z.Warmed39 s.vm) (hw : ∀ d ∈ words, d.before a0 Z = true) : ∀ d ∈ words, d.before args s = true := fun d hd => by
  have q := hw d hd
  have t : ∀ d ∈ words, d = .arrayClass .byte ∨ (d.onTables && d.keepsFace) = true := by decide +kernel
  rcases t d hd with rfl | t
  · exact RoadKit.mvA hZ q
  · exact RoadKit.mv hZ q t
/-- WHAT COMES BACK, over the tables of the start Z: h the heap at the call, h' behind it -/
def Q (Z : State) (x : Addr) (A : Cell) (h : Heap) (v : Option Value) (h' : Heap) (L : List Loc) : Prop := v = none ∧ (∀ y ∈ L, y.base = x) ∧ RoadKit.Keep h h' [x] ∧ h'.size = h.size + 1 ∧ RoadKit.Exa Z h' x ST ∧ RoadKit.Fld Z h' x ST "value" "[B" (.ref h.size) ∧ RoadKit.Fld Z h' x ST "coder" "B" (.int 0) ∧
  (∃ V : Cell, RoadKit.Arr Z h' h.size V .byte ∧ V.vm = .none ∧ Z.vm.findClass "[B" = some V.cls ∧ V.slots.size = A.slots.size ∧ ∀ j, j < A.slots.size → V.slots[j]? = some (.int (lo8 (cv A j)))) ∧
  ∀ (O n d : String) (w : Value), RoadKit.Fld Z h x O n d w → RoadKit.slotOf Z O n d ≠ RoadKit.slotOf Z ST "value" "[B" → RoadKit.slotOf Z O n d ≠ RoadKit.slotOf Z ST "coder" "B" → RoadKit.Fld Z h' x O n d w
/-- **new String(chars) AT A CALL, IN THE ROAD'S FORM**: for specialBack behind newO: x the fresh String, b the char[] with the cell A -/
theorem back {p : Program} {l : Launch} {e : Env} {R : Room} {s : State} {args : Array Value} {below : List Frame} {len W : Nat} {Z : State} {a0 : Array Value} {h : Heap} (hZ : Z.Warmed39 s.vm) (hw : ∀ d ∈ words, d.before a0 Z = true) {kI : Nat} (wi : (Jvm.Cond.instantiable ST kI).before a0 Z = true)
    {x b : Addr} {A : Cell} {z : Int32} {v0 c0 : Value} (E : RoadKit.Exa Z h x ST) (V : RoadKit.Fld Z h x ST "value" "[B" v0) (C : RoadKit.Fld Z h x ST "coder" "B" c0) (K : RoadKit.Arr Z h b A .char) (hty : Typed .char A) (S : RoadKit.Sta Z h ST "COMPACT_STRINGS" "Z" (.int z)) (hz : ¬ z = 0)
    (l0 : 0 < A.slots.size) (l2 : A.slots.size ≤ 536870912) (hp : ∀ i, i < A.slots.size → ¬ 255 < cv A i) (hfr : 4 ≤ R.frames) (hlo : W + 65 ≤ R.locals) :
    Back l R p e below s args New1.yN len W (fun P a => a = #[.ref x, .ref b] ∧ P.U.heap = h ∧ P.cells + 1 ≤ R.cells ∧ P.slots + A.slots.size ≤ R.slots)
      (fun P _ v B => ∃ L, Q Z x A h v B.U.heap L ∧ B.locs = P.locs ++ L ∧ B.cells = P.cells + 1 ∧ B.slots = P.slots + A.slots.size) := by
  intro m meth c P g ig mk a X hg hsize hdg hW hn hp'
  obtain ⟨rfl, rfl, r1, r2⟩ := hp'
  have al : Z.vm.Alike P.U.vm := hZ.alike.trans X.warmed.alike
  obtain ⟨D, cfV, kV, iV, fV, hD, gV, stV, knV, obV, asV, slV⟩ := id V
  obtain ⟨D', cfC, kC, iC, fC, hD', gC, stC, -, -, asC, slC⟩ := id C
  cases hD.symm.trans hD'
  obtain ⟨D2, kD, e1, e2, e3, e4, e5⟩ := id E
  cases hD.symm.trans e1
  obtain ⟨c2, k2, i1, i2, i3, -⟩ := Cond.instantiable_spec wi
  cases e2.symm.trans i1
  cases e3.symm.trans i2
  obtain ⟨kU, u1, u2⟩ := al.2.2 _ _ e3
  have hB : Blank ST x D P.U := ⟨hD, ⟨knV, fun q hq => by rw [hq] at obV; cases obV⟩, by rw [al.findClass]; exact e2, kU, u1, by rw [u2]; exact i3, by rw [u2]; exact e5 i3⟩
  have F1 : Found ST "value" "[B" fV P.U := ⟨SBG.found_only al ⟨cfV, kV, iV, gV⟩, stV⟩
  have F2 : Found ST "coder" "B" fC P.U := ⟨SBG.found_only al ⟨cfC, kC, iC, gC⟩, stC⟩
  have hA : Ch b A P.U := ⟨⟨K.1, State.isArrayOf_alike al K.2.1, K.2.2, by omega⟩, hty⟩
  have hS : StaticIs P.U ST "COMPACT_STRINGS" "Z" (.int z) := by
    obtain ⟨cfS, iS, kS, fS, st, cS, t1, t2, t3, t4, t5, t6, t7⟩ := S
    exact StaticIs.there (s := { Z with heap := P.U.heap }) ⟨cfS, iS, kS, fS, st, cS, t1, t2, t3, t4, t5, (fun q => by rw [q] at t6; cases t6), t7⟩ al rfl
  obtain ⟨v, B, X', ⟨⟨hv, E', V', q1, q2, q3, q4, q5, q6, q7, q8, q9, q10, q11⟩, hl, hc, hs⟩, st⟩ := New1.pays x D fV fC b A z (tab_of (moved hZ hw)) hfr hlo m meth c P g ig mk _ X hg hsize hdg hW hn ⟨r1, r2, rfl, hB, F1, F2, hA, hS, hz, l0, l2, hp⟩
  have al' : Z.vm.Alike B.U.vm := hZ.alike.trans X'.warmed.alike
  have hsz : E'.slots.size = D.slots.size := by
    obtain ⟨-, -, -, kB, w1, w2, w3⟩ := q1
    obtain ⟨kB', y1, y2⟩ := al'.2.2 _ _ e3
    rw [q2.2.1] at w1
    cases w1.symm.trans y1
    rw [w3, e5 i3, y2]
  refine ⟨v, B, X', ⟨_, ⟨hv, ?_, ⟨by omega, fun y cy hy hn' => q10 y cy (by simpa using hn') hy, fun y cy hy => ?_⟩, q11, ⟨E', _, q1.1, by rw [q2.2.1]; exact e2, by rw [q2.2.1]; exact e3, by rw [q2.1]; exact obV, fun _ => by rw [hsz]; exact e5 i3⟩,
    ⟨E', cfV, kV, iV, fV, q1.1, gV, stV, by rw [q2.1]; exact knV, by rw [q2.1]; exact obV, by rw [q2.2.1]; exact asV, q3⟩, ⟨E', cfC, kC, iC, fC, q1.1, gC, stC, by rw [q2.1]; exact knV, by rw [q2.1]; exact obV, by rw [q2.2.1]; exact asC, q4⟩,
    ⟨V', ⟨q5.1, State.isArrayOf_alike al'.symm q5.2.1, q5.2.2.1⟩, q6, by rw [← al'.findClass]; exact q7, q8, fun j hj => by have := q9 j hj; rwa [Nat.zero_add] at this⟩, fun O n d w F n1 n2 => ?_⟩, hl, hc, hs⟩, st⟩
  · intro y hy
    simp only [List.mem_cons, List.not_mem_nil, or_false] at hy
    rcases hy with rfl | rfl <;> rfl
  · by_cases q : y = x
    · subst q
      cases hD.symm.trans hy
      exact ⟨E', q1.1, q2.2.1, q2.1, hsz⟩
    · exact ⟨cy, q10 y cy q hy, rfl, rfl, rfl⟩
  · obtain ⟨D3, cf, k, i, f, g1, g2, g3, g4, g5, g6, g7⟩ := F
    cases hD.symm.trans g1
    simp only [RoadKit.slotOf, g2, gV, gC, Option.map_some, Option.getD_some] at n1 n2
    exact ⟨E', cf, k, i, f, q1.1, g2, g3, by rw [q2.1]; exact g4, by rw [q2.1]; exact g5, by rw [q2.2.1]; exact g6, by rw [q2.2.2 f.slot (by simp [n1, n2])]; exact g7⟩
end StrChars.Road
namespace StrChars.Road
open Jvm Sem ClassFile Op Lib Jvm.Stand Jvm.Free Jvm.Free.XT
/-- WHAT COMES BACK, the byte[] as a list of values -/
def QA (Z : State) (x : Addr) (zn : Int32) (cs : List Int32) (h : Heap) (v : Option Value) (h' : Heap) (L : List Loc) : Prop := v = none ∧ (∀ y ∈ L, y.base = x) ∧ RoadKit.Keep h h' [x] ∧ h'.size = h.size + 1 ∧ RoadKit.Exa Z h' x ST ∧ RoadKit.Fld Z h' x ST "value" "[B" (.ref h.size) ∧ RoadKit.Fld Z h' x ST "coder" "B" (.int 0) ∧
  (∃ kb, Z.vm.findClass "[B" = some kb ∧ RoadKit.Arv Z h' h.size kb .byte zn (cs.map fun c => .int (lo8 c)) (.int 0)) ∧
  ∀ (O n d : String) (w : Value), RoadKit.Fld Z h x O n d w → RoadKit.slotOf Z O n d ≠ RoadKit.slotOf Z ST "value" "[B" → RoadKit.slotOf Z O n d ≠ RoadKit.slotOf Z ST "coder" "B" → RoadKit.Fld Z h' x O n d w
/-- **new String(chars) AT A CALL, THE ARRAYS AS LISTS**: the char[] at b holds cs, not empty, no char above 255 -/
theorem backArv {p : Program} {l : Launch} {e : Env} {R : Room} {s : State} {args : Array Value} {below : List Frame} {len W : Nat} {Z : State} {a0 : Array Value} {h : Heap} (hZ : Z.Warmed39 s.vm) (hw : ∀ d ∈ words, d.before a0 Z = true) {kI : Nat} (wi : (Jvm.Cond.instantiable ST kI).before a0 Z = true)
    {x b : Addr} {k : ClassId} {zn z : Int32} {cs : List Int32} {dv v0 c0 : Value} (E : RoadKit.Exa Z h x ST) (V : RoadKit.Fld Z h x ST "value" "[B" v0) (C : RoadKit.Fld Z h x ST "coder" "B" c0) (K : RoadKit.Arv Z h b k .char zn (cs.map Value.int) dv) (S : RoadKit.Sta Z h ST "COMPACT_STRINGS" "Z" (.int z)) (hz : ¬ z = 0)
    (hlen : zn.toNatClampNeg = cs.length) (h0 : 0 < cs.length) (hbig : cs.length ≤ 536870912) (hall : ∀ c ∈ cs, ¬ 255 < c) (hfr : 4 ≤ R.frames) (hlo : W + 65 ≤ R.locals) :
    Back l R p e below s args New1.yN len W (fun P a => a = #[.ref x, .ref b] ∧ P.U.heap = h ∧ P.cells + 1 ≤ R.cells ∧ P.slots + cs.length ≤ R.slots)
      (fun P _ v B => ∃ L, QA Z x zn cs h v B.U.heap L ∧ B.locs = P.locs ++ L ∧ B.cells = P.cells + 1 ∧ B.slots = P.slots + cs.length) := by
  obtain ⟨A, K1, K2, K3, K4, K5, K6⟩ := K
  have e : A.slots.size = cs.length := K3.trans hlen
  have hat : ∀ (i : Nat) (hi : i < cs.length), A.slots[i]? = some (.int cs[i]) := fun i hi => by rw [K5 i (by omega)]; simp [List.getD_eq_getElem?_getD, hi]
  have hcv : ∀ (i : Nat) (hi : i < cs.length), cv A i = cs[i] := fun i hi => by unfold cv; rw [hat i hi]
  have hty : Typed .char A := fun i v hv => by
    have hi : i < A.slots.size := (Array.getElem?_eq_some_iff.mp hv).1
    have q := K5 i hi
    rw [hv] at q
    rw [Option.some.inj q]
    exact K6 i hi
  refine Back.mono (back hZ hw wi E V C K1 hty S hz (by omega) (by omega) (fun i hi => by rw [hcv i (by omega)]; exact hall _ (List.getElem_mem _)) hfr hlo) (fun P a hp => ⟨hp.1, hp.2.1, hp.2.2.1, by rw [e]; exact hp.2.2.2⟩) (fun P a v B hp hq => ?_)
  obtain ⟨L, ⟨q1, q2, q3, q4, q5, q6, q7, ⟨V', v1, v2, v3, v4, v5⟩, q9⟩, hl, hc, hs⟩ := hq
  refine ⟨L, ⟨q1, q2, q3, q4, q5, q6, q7, ⟨V'.cls, v3, V', v1, rfl, by rw [v4, e, hlen], K4, fun i hi => ?_, fun i hi => ?_⟩, q9⟩, hl, hc, by rw [hs, e]⟩
  · have hi' : i < cs.length := by omega
    rw [v5 i (by omega), hcv i hi']; simp [List.getD_eq_getElem?_getD, hi']
  · have hi' : i < cs.length := by omega
    simp only [List.getD_eq_getElem?_getD, List.getElem?_map, List.getElem?_eq_getElem hi', Option.map_some, Option.getD_some]
    exact fits_lo8 _
end StrChars.Road
namespace StrChars.Road
open Jvm Sem ClassFile Op Lib Jvm.Stand Jvm.Free Jvm.Free.XT
/-- WHAT COMES BACK, in the writer's own shape -/
def QV (Z : State) (x : Addr) (N : Int32) (bs : List Int32) (h : Heap) (n0 : Nat) (v : Option Value) (h' : Heap) (L : List Loc) : Prop := v = none ∧ RoadKit.Fr n0 L ∧ RoadKit.Keep h h' [x] ∧ RoadKit.Exa Z h' x ST ∧ RoadKit.Fld Z h' x ST "coder" "B" (.int 0) ∧
  ∃ (t : Addr) (kb : ClassId), n0 ≤ t ∧ h.size ≤ t ∧ ¬ t = x ∧ RoadKit.Fld Z h' x ST "value" "[B" (.ref t) ∧ RoadKit.Arv Z h' t kb .byte N (bs.map Value.int) (.int 0)
/-- **new String(chars) AT A CALL, FOR THE WRITER**: a char[] of n known ints, each 0 to 255 -/
theorem backV {p : Program} {l : Launch} {e : Env} {R : Room} {s : State} {args : Array Value} {below : List Frame} {len W : Nat} {Z : State} {a0 : Array Value} {h : Heap} (hZ : Z.Warmed39 s.vm) (hw : ∀ d ∈ words, d.before a0 Z = true) {kI : Nat} (wi : (Jvm.Cond.instantiable ST kI).before a0 Z = true)
    {x b : Addr} {kC : ClassId} {cs bs : List Int32} {d v0 c0 : Value} {z N : Int32} {n n0 : Nat} (hx0 : n0 ≤ x) (hh0 : n0 ≤ h.size) (E : RoadKit.Exa Z h x ST) (V : RoadKit.Fld Z h x ST "value" "[B" v0) (C : RoadKit.Fld Z h x ST "coder" "B" c0) (K : RoadKit.Arv Z h b kC .char N (cs.map Value.int) d) (S : RoadKit.Sta Z h ST "COMPACT_STRINGS" "Z" (.int z)) (hz : ¬ z = 0)
    (hn : cs.length = n) (hN : N = Int32.ofNat n) (l0 : 0 < n) (l2 : n ≤ 4000) (hp : ∀ c ∈ cs, ¬ c < 0 ∧ ¬ (255 : Int32) < c) (hb : bs = cs.map (fun c => c.toInt8.toInt32)) (hfr : 4 ≤ R.frames) (hlo : W + 65 ≤ R.locals) :
    Back l R p e below s args (⟨"java/lang/String", "<init>", "([C)V"⟩ : MethodName) len W (fun P a => a = #[.ref x, .ref b] ∧ P.U.heap = h ∧ P.cells + 1 ≤ R.cells ∧ P.slots + n ≤ R.slots)
      (fun P _ v B => ∃ L, QV Z x N bs h n0 v B.U.heap L ∧ B.locs = P.locs ++ L ∧ B.cells = P.cells + 1 ∧ B.slots = P.slots + n) := by
  subst hn hN hb
  refine Back.mono (backArv hZ hw wi E V C K S hz (n32 (by omega)) l0 (by omega) (fun c hc => (hp c hc).2) hfr hlo) (fun P a hp => hp) (fun P a v B hp hq => ?_)
  obtain ⟨L, ⟨q1, q2, q3, q4, q5, q6, q7, ⟨kb, v1, v2⟩, q9⟩, hl, hc, hs⟩ := hq
  exact ⟨L, ⟨q1, fun y hy => by rw [q2 y hy]; exact hx0, q3, q5, q7, h.size, kb, hh0, Nat.le_refl _, Nat.ne_of_gt E.lt, q6, by rw [List.map_map]; exact v2⟩, hl, hc, hs⟩
end StrChars.Road
end Jvm.Pilot.@@N@@
namespace Jvm.OwnKit
open Jvm Jvm.ClassFile Sem Op Lib Jvm.Free Jvm.Stand Jvm.LawKit Jvm.RoadKit Bundle
/-- what is left to show of a walk that stands at S: it ends, and Q holds there -/
def Go (tb : Tables) (e : Env) (below : List Frame) (Q : Outcome → State → Prop) (S : State) : Prop :=
  ∃ (U : State) (o : Outcome), Steps tb e below S U ∧ U.status = .running ∧ Ended U below o ∧ Q o U
section
variable {tb : Tables} {e : Env} {below : List Frame} {Q : Outcome → State → Prop} {S S' : State}
theorem Go.st (f : ∀ {t : State}, Steps tb e below S' t → Steps tb e below S t) (h : Go tb e below Q S') : Go tb e below Q S := by
  obtain ⟨U, o, h1, h2⟩ := h
  exact ⟨U, o, f h1, h2⟩
theorem Go.to (f : ∀ t : State, Steps tb e below S' t → Steps tb e below S t) (h : Go tb e below Q S') : Go tb e below Q S := Go.st (fun {t} => f t) h
theorem Go.run (f : Steps tb e below S S') (h : Go tb e below Q S') : Go tb e below Q S := by
  obtain ⟨U, o, h1, h2⟩ := h
  exact ⟨U, o, f.trans h1, h2⟩
end
theorem castGo {tb : Tables} {e : Env} {below : List Frame} {Q : Outcome → State → Prop} {T : State} {g g' : JFrame} (q : g = g') (k : Go tb e below Q (T.setTop g')) : Go tb e below Q (T.setTop g) := q ▸ k
/-- the end of a plain walk -/
def PEnd (s : State) (Qc : Option Value → Heap → List Loc → Prop) (kc ks : Nat) (o : Outcome) (U : State) : Prop :=
  ∃ v L, o = .returned v ∧ Qc v U.heap L ∧ FrameEnd s o U L kc ks
/-- a plain contract: from the heap h with these arguments it returns, Qc holds, the room is kept -/
def Con (l : Launch) (Z : State) (y : MethodName) (bytes : ByteArray) (maxL : Nat) (ret : Option FieldType) (rm : Room) (as' : Array Value) (h : Heap) (Qc : Option Value → Heap → List Loc → Prop) : Prop :=
  ∀ ws : List Jvm.Cond, MetFree l y (head1 (Jvm.Cond.code y bytes maxL ret :: ws) rm) (fun a U => a = as' ∧ Z.Warmed39 U.vm ∧ U.heap = h) (fun _ _ _ _ _ => True) (fun _ U o U' => PEnd U Qc rm.cells rm.slots o U')
theorem Con.intro {l : Launch} {Z : State} {y : MethodName} {bytes : ByteArray} {maxL : Nat} {ret : Option FieldType} {rm : Room} {as' : Array Value} {h : Heap} {Qc : Option Value → Heap → List Loc → Prop} (pn : plainFor y = true)
    (body : ∀ (p : Program) (e : Env) (s : State) (m : MethodId) (below : List Frame) (meth : Method) (c : Code) (T : State), Stand p l e rm s m as' below meth c T [] 0 0 → p.tables.exec = Jvm.exec → c.code = bytes → c.maxLocals = maxL →
      s.vm.findClass y.cls = some m.cls → meth.name = y.name → meth.sig.returnType = ret → meth.locks = false → Z.Warmed39 s.vm → T.heap = h →
      Go p.tables e below (PEnd s Qc rm.cells rm.slots) (T.setTop (entryFrame m as' maxL))) : Con l Z y bytes maxL ret rm as' h Qc := by
  intro ws
  refine MetFree.of_bodySF pn hisR ?_
  intro p e s m args below meth c s₁ Bd hml0 hP hK
  obtain ⟨rfl, hZ, hh⟩ := hP
  exact body p e s m below meth c s₁ (Stand.of_body Bd) Bd.exec Bd.bytes hml0 (findClass_of_methodNamed Bd.named) (name_of_methodNamed Bd.named Bd.method).1 Bd.returns Bd.notSynchronized hZ (by rw [← hh, Bd.state]; rfl)
/-- the end of a walk that may have interned -/
def SEnd (Z : State) (EL : List (String × Nat)) (s : State) (Qc : Option Value → Heap → List Loc → Prop) (kc ks : Nat) (o : Outcome) (U : State) : Prop :=
  ∃ v L, o = .returned v ∧ Qc v U.heap L ∧ CHr Z EL s.vm s.heap U.vm U.heap ∧ ReturnedEndW s o U L kc ks
/-- a contract of a method that may load String constants; sl: cells that no constant uses -/
def ConS (l : Launch) (Z : State) (EL : List (String × Nat)) (y : MethodName) (bytes : ByteArray) (maxL : Nat) (ret : Option FieldType) (rm : Room) (as' : Array Value) (h : Heap) (sl : List Addr) (Qc : Option Value → Heap → List Loc → Prop) : Prop :=
  ∀ ws : List Jvm.Cond, MetFree l y (head1 (Jvm.Cond.code y bytes maxL ret :: ws) rm) (fun a U => a = as' ∧ Z.Warmed39 U.vm ∧ U.heap = h ∧ CHv Z EL U.vm h ∧ ∀ x ∈ sl, Safe Z EL U.vm h x) (fun _ _ _ _ _ => True) (fun _ U o U' => SEnd Z EL U Qc rm.cells rm.slots o U')
theorem ConS.intro {l : Launch} {Z : State} {EL : List (String × Nat)} {y : MethodName} {bytes : ByteArray} {maxL : Nat} {ret : Option FieldType} {rm : Room} {as' : Array Value} {h : Heap} {sl : List Addr} {Qc : Option Value → Heap → List Loc → Prop} (pn : plainFor y = true)
    (body : ∀ (p : Program) (e : Env) (s : State) (m : MethodId) (below : List Frame) (meth : Method) (c : Code) (T : State) (v0 : Vm), Stand p l e rm (s.setVm v0) m as' below meth c T [] 0 0 → p.tables.exec = Jvm.exec → c.code = bytes → c.maxLocals = maxL →
      v0.findClass y.cls = some m.cls → meth.name = y.name → meth.sig.returnType = ret → meth.locks = false → Z.Warmed39 v0 → T.heap = h → s.Since v0 0 → CHr Z EL s.vm s.heap v0 h → (∀ x ∈ sl, Safe Z EL v0 h x) →
      Go p.tables e below (SEnd Z EL s Qc rm.cells rm.slots) (T.setTop (entryFrame m as' maxL))) : ConS l Z EL y bytes maxL ret rm as' h sl Qc := by
  intro ws
  refine MetFree.of_bodySF pn hisR ?_
  intro p e s m args below meth c s₁ Bd hml0 hP hK
  obtain ⟨rfl, hZ, hh, hC, hs⟩ := hP
  exact body p e s m below meth c s₁ s.vm (Stand.of_body Bd) Bd.exec Bd.bytes hml0 (findClass_of_methodNamed Bd.named) (name_of_methodNamed Bd.named Bd.method).1 Bd.returns Bd.notSynchronized hZ (by rw [← hh, Bd.state]; rfl) ((State.WarmedH.refl s).since 0) (by rw [hh]; exact CHr.refl hC) hs
section Ends
variable {p : Program} {l : Launch} {e : Env} {R : Room} {s : State} {m : MethodId} {args : Array Value} {below : List Frame} {meth : Method} {c : Code} {T : State} {locs : List Loc} {cells slots : Nat} {Z : State} {a0 : Array Value} {EL : List (String × Nat)} {h : Heap} {Qc : Option Value → Heap → List Loc → Prop} {kc ks pc : Nat} {Ls : Array Slot} {rest : List Value} {vm1 : Vm} {n1 : Nat}
/-- any plain end, its last step given -/
theorem endP (X : Stand p l e R s m args below meth c T locs cells slots) (hlk : meth.locks = false) {v : Option Value} (hv : meth.sig.returnType = none → v = none) {S : State}
    (hst : ∀ fs : List Frame, (∀ (f : JFrame) (acts : List Action), f.method = m → f.locked = none → f.entered = [] → (doReturn e (T.setTop f) acts v).1 = T.setFrames fs) → Steps p.tables e below S (T.setFrames fs))
    (hq : Qc v T.heap locs) (h1 : cells ≤ kc) (h2 : slots ≤ ks) : Go p.tables e below (PEnd s Qc kc ks) S := by
  obtain ⟨fs, hr, hrun, hended, hW, hsame⟩ := X.leave (v := v) hv hlk
  exact ⟨_, _, hst fs hr, hrun, hended, _, _, rfl, hq, ⟨_, rfl⟩, hW, hsame.mono h1 h2⟩
theorem mono_sbn {s t : State} {L : List Loc} {k n k' n' : Nat} {o : Outcome} (h : ReturnedEndW s o t L k n) (h1 : k ≤ k') (h2 : n ≤ n') : ReturnedEndW s o t L k' n' := ⟨h.1, h.2.1, h.2.2.1, h.2.2.2.mono h1 h2⟩
theorem endC (X : Stand p l e R (s.setVm vm1) m args below meth c T locs cells slots) (hlk : meth.locks = false) (hS : s.Since vm1 n1) (hk : n1 ≤ T.heap.size) (hZ : Z.Warmed39 vm1) (w : EW Z a0 EL) (C : CHr Z EL s.vm s.heap vm1 T.heap) {v : Option Value} (hv : meth.sig.returnType = none → v = none) {S : State}
    (hst : ∀ fs : List Frame, (∀ (f : JFrame) (acts : List Action), f.method = m → f.locked = none → f.entered = [] → (doReturn e (T.setTop f) acts v).1 = T.setFrames fs) → Steps p.tables e below S (T.setFrames fs))
    (hq : Qc v T.heap locs) (h1 : cells ≤ kc) (h2 : slots ≤ ks) : Go p.tables e below (SEnd Z EL s Qc kc ks) S := by
  obtain ⟨fs, hr, hrun, hended, hW⟩ := X.leaveW hS hk (v := v) hv hlk
  have hC : CHr Z EL s.vm s.heap T.vm T.heap := C.trans (CHv.at X hZ w C.1)
  exact ⟨_, _, hst fs hr, hrun, hended, _, _, rfl, hq, hC, mono_sbn hW h1 h2⟩
/-- the last steps -/
theorem lastV (X : Stand p l e R s m args below meth c T locs cells slots) (hx : p.tables.exec = Jvm.exec) (hret : meth.sig.returnType = none) (hd : decode c.code pc = .ok (.return_, 1)) : ∀ fs : List Frame, (∀ (f : JFrame) (acts : List Action), f.method = m → f.locked = none → f.entered = [] → (doReturn e (T.setTop f) acts none).1 = T.setFrames fs) →
    Steps p.tables e below (T.setTop (mkF m pc Ls [])) (T.setFrames fs) := fun fs hr => X.returnOut hx hret hd hr
theorem lastN (X : Stand p l e R s m args below meth c T locs cells slots) (hx : p.tables.exec = Jvm.exec) {z z' : Int32} {t : FieldType} (hret : meth.sig.returnType = some t) (ht : t = .boolean ∨ t = .byte ∨ t = .char ∨ t = .short) (hz : nar t z = z') (hd : decode c.code pc = .ok (.ireturn, 1)) :
    ∀ fs : List Frame, (∀ (f : JFrame) (acts : List Action), f.method = m → f.locked = none → f.entered = [] → (doReturn e (T.setTop f) acts (some (.int z'))).1 = T.setFrames fs) → Steps p.tables e below (T.setTop (mkF m pc Ls (.int z :: rest))) (T.setFrames fs) := fun fs hr => by
  subst hz; exact retN X hx hret ht hd hr
theorem lastI (X : Stand p l e R s m args below meth c T locs cells slots) (hx : p.tables.exec = Jvm.exec) {z : Int32} (hret : meth.sig.returnType = some .int) (hd : decode c.code pc = .ok (.ireturn, 1)) :
    ∀ fs : List Frame, (∀ (f : JFrame) (acts : List Action), f.method = m → f.locked = none → f.entered = [] → (doReturn e (T.setTop f) acts (some (.int z))).1 = T.setFrames fs) → Steps p.tables e below (T.setTop (mkF m pc Ls (.int z :: rest))) (T.setFrames fs) := fun fs hr =>
  retOut X hx hret rfl (Or.inl ⟨rfl, Or.inl rfl, z, rfl⟩) hd hr
theorem lastL (X : Stand p l e R s m args below meth c T locs cells slots) (hx : p.tables.exec = Jvm.exec) {z : Int64} (hret : meth.sig.returnType = some .long) (hd : decode c.code pc = .ok (.lreturn, 1)) :
    ∀ fs : List Frame, (∀ (f : JFrame) (acts : List Action), f.method = m → f.locked = none → f.entered = [] → (doReturn e (T.setTop f) acts (some (.long z))).1 = T.setFrames fs) → Steps p.tables e below (T.setTop (mkF m pc Ls (.long z :: rest))) (T.setFrames fs) := fun fs hr =>
  retOut X hx hret rfl (Or.inr (Or.inl ⟨rfl, rfl, z, rfl⟩)) hd hr
theorem lastA (X : Stand p l e R s m args below meth c T locs cells slots) (hx : p.tables.exec = Jvm.exec) {w : Value} {t : FieldType} (hret : meth.sig.returnType = some t) (ht : t.isReference = true) (hn : narrow t w = w) (hw : w.isRef = true) (hd : decode c.code pc = .ok (.areturn, 1)) :
    ∀ fs : List Frame, (∀ (f : JFrame) (acts : List Action), f.method = m → f.locked = none → f.entered = [] → (doReturn e (T.setTop f) acts (some w)).1 = T.setFrames fs) → Steps p.tables e below (T.setTop (mkF m pc Ls (w :: rest))) (T.setFrames fs) := fun fs hr =>
  retOut X hx hret hn (Or.inr (Or.inr (Or.inr (Or.inr ⟨rfl, ht, hw⟩)))) hd hr
end Ends
/-- what pays a call: from the heap h, k cells and n slots -/
abbrev BackQ (l : Launch) (R : Room) (p : Program) (e : Env) (below : List Frame) (s : State) (sargs : Array Value) (y : MethodName) (len W : Nat) (as' : Array Value) (h : Heap) (k n : Nat) (Q : Option Value → Heap → List Loc → Prop) : Prop :=
  Back l R p e below s sargs y len W (fun A a => a = as' ∧ A.U.heap = h ∧ A.cells + k ≤ R.cells ∧ A.slots + n ≤ R.slots) (fun A _ v B => ∃ L, Q v B.U.heap L ∧ B.locs = A.locs ++ L ∧ B.cells = A.cells + k ∧ B.slots = A.slots + n)
abbrev BackSQ (l : Launch) (R : Room) (p : Program) (e : Env) (below : List Frame) (s : State) (vm0 : Vm) (sargs : Array Value) (y : MethodName) (len W : Nat) (as' : Array Value) (h : Heap) (k n : Nat) (Z : State) (EL : List (String × Nat)) (Q : Option Value → Heap → List Loc → Prop) : Prop :=
  BackS l R p e below (s.setVm vm0) sargs y len W (fun A a => a = as' ∧ A.U.heap = h ∧ A.cells + k ≤ R.cells ∧ A.slots + n ≤ R.slots) (fun A _ v B => ∃ L, Q v B.U.heap L ∧ B.locs = A.locs ++ L ∧ B.cells = A.cells + k ∧ B.slots = A.slots + n ∧ CHr Z EL vm0 h B.U.vm B.U.heap)
section Calls
variable {p : Program} {l : Launch} {e : Env} {R : Room} {s : State} {m : MethodId} {args : Array Value} {below : List Frame} {meth : Method} {c : Code} {T : State} {locs : List Loc} {cells slots : Nat} {Z : State} {a0 : Array Value} {EL : List (String × Nat)} {h : Heap} {Qc : Option Value → Heap → List Loc → Prop} {vm0 : Vm} {n0 : Nat}
  {y z : MethodName} {bytes : ByteArray} {maxL : Nat} {ret : Option FieldType} {rm : Room} {as' : Array Value} {own C : String} {index count W k n len : Nat} {g : JFrame} {a : Addr} {argsL rest : List Value}
theorem Con.back (hM : Con l Z y bytes maxL ret rm as' h Qc) (hZ : Z.Warmed39 s.vm) (wc : (Jvm.Cond.code y bytes maxL ret).before a0 Z = true) (wz : (Jvm.Cond.initialized y.cls).before a0 Z = true) (hf : rm.frames + 1 ≤ R.frames) (hl : W + (maxL + 11) + rm.locals ≤ R.locals) :
    BackQ l R p e below s args y len W as' h rm.cells rm.slots Qc := backOf (Q := Qc) (hM []) hZ wc wz hf hl
theorem ConS.back {sl : List Addr} (hM : ConS l Z EL y bytes maxL ret rm as' h sl Qc) (hZ : Z.Warmed39 vm0) (wc : (Jvm.Cond.code y bytes maxL ret).before a0 Z = true) (wz : (Jvm.Cond.initialized y.cls).before a0 Z = true) (hf : rm.frames + 1 ≤ R.frames) (hl : W + (maxL + 11) + rm.locals ≤ R.locals) (hEL : EW Z a0 EL) (H : CHv Z EL vm0 h)
    (hs : ∀ x ∈ sl, Safe Z EL vm0 h x) (hlt : ∀ x ∈ sl, x < h.size) : BackSQ l R p e below s vm0 args y len W as' h rm.cells rm.slots Z EL Qc :=
  BackS.of_freeW (bytes := bytes) (maxL := maxL) (ret := ret) (E := fun _ first o t L k n => k = rm.cells ∧ n = rm.slots ∧ (∃ v, o = .returned v ∧ Qc v t.heap L) ∧ CHr Z EL first.vm first.heap t.vm t.heap) (hM []) hf hl
    (fun m meth c A a Y hp => have hU : Z.Warmed39 A.U.vm := wtrans (s := s.setVm vm0) hZ Y.warmed
      ⟨by show (Cond.and _ .tt).before a A.U = true; rw [Cond.before_and, mv hU wc]; rfl, mv hU wc, mv hU wz, hp.2.2.1, hp.2.2.2⟩)
    (fun m meth c A a g mk Y hp => ⟨hp.1, wtrans (s := s.setVm vm0) hZ Y.warmed, hp.2.1, (CHv.at Y hZ hEL H).1, fun x hx => (CHv.at Y hZ hEL H).safe (hlt x hx) (hs x hx)⟩) (fun _ _ _ _ _ _ _ _ _ => trivial)
    (fun _ _ _ _ ⟨v, L, h1, h2, h3, h4⟩ => ⟨L, _, _, h4, rfl, rfl, ⟨v, h1, h2⟩, h3⟩)
    (fun m meth c A a g mk v t L k n Y hp _ _ ⟨e1, e2, ⟨v', e3, e4⟩, e5⟩ => by
      cases e3; subst e1 e2
      refine ⟨L, e4, rfl, rfl, rfl, (CHv.at Y hZ hEL H).trans ?_⟩
      rw [← hp.2.1]; exact e5)
theorem callSp (X : Stand p l e R s m args below meth c T locs cells slots) (hx : p.tables.exec = Jvm.exec) (hZ : Z.Warmed39 s.vm) (hown : s.vm.findClass own = some m.cls) (hy1 : y.name = "<init>") (w1 : (Jvm.Cond.methodLink own index y).before a0 Z = true) (w2 : (Jvm.Cond.instanceMethod y).before a0 Z = true) (w3 : (Jvm.Cond.code y bytes maxL none).before a0 Z = true)
    (hyc : y.cls ≠ "java/lang/invoke/MethodHandle" ∧ y.cls ≠ "java/lang/invoke/VarHandle") (eT : T.heap = h) (hK : BackQ l R p e below s args y 3 W (.ref a :: argsL).toArray h k n Qc)
    (hg : g.method = m) (hsize : g.locals.size = c.maxLocals) (hlen : ∀ sig, parseMethodDescriptor y.desc = some sig → argsL.length = sig.parameters.length) (hstack : g.stack = argsL.reverse ++ .ref a :: rest) (hW : 2 * g.monitorRoom + (rest.map fun v => v.category).sum ≤ W)
    (hdg : decode c.code g.pc = .ok (.invokespecial index, 3)) (hc : cells + k ≤ R.cells) (hs : slots + n ≤ R.slots) :
    ∃ v T' L, Stand p l e R s m args below meth c T' (locs ++ L) (cells + k) (slots + n) ∧ Qc v T'.heap L ∧ Steps p.tables e below (T.setTop g) (T'.setTop { g with pc := g.pc + 3, stack := v.toList ++ rest }) := by
  obtain ⟨v, vm1, ⟨T', L', k', n'⟩, -, X', ⟨L, hQ, rfl, rfl, rfl⟩, st⟩ := X.specialBack hx hy1 hown (mvT hZ w1) (mvT hZ w2) (mvT hZ w3) hyc hK hg hsize (Steps.refl _) hlen hstack hW hdg (fun _ _ => ⟨rfl, eT, hc, hs⟩)
  exact ⟨v, T', L, X', hQ, st⟩
theorem callVi (X : Stand p l e R s m args below meth c T locs cells slots) (hx : p.tables.exec = Jvm.exec) (hZ : Z.Warmed39 s.vm) (hown : s.vm.findClass own = some m.cls) (w1 : (Jvm.Cond.methodLink own index y).before a0 Z = true) (w2 : (Jvm.Cond.declares y).before a0 Z = true) (nf : NotFace s y) (w4 : (Jvm.Cond.selects C y z).before a0 Z = true) (w5 : (Jvm.Cond.instanceMethod z).before a0 Z = true)
    (hyc : y.cls ≠ "java/lang/invoke/MethodHandle" ∧ y.cls ≠ "java/lang/invoke/VarHandle") (eT : T.heap = h) (E : Exa Z h a C) (hK : BackQ l R p e below s args z 3 W (.ref a :: argsL).toArray h k n Qc)
    (hg : g.method = m) (hsize : g.locals.size = c.maxLocals) (hlen : ∀ sig, parseMethodDescriptor y.desc = some sig → argsL.length = sig.parameters.length) (hstack : g.stack = argsL.reverse ++ .ref a :: rest) (hW : 2 * g.monitorRoom + (rest.map fun v => v.category).sum ≤ W)
    (hdg : decode c.code g.pc = .ok (.invokevirtual index, 3)) (hc : cells + k ≤ R.cells) (hs : slots + n ≤ R.slots) :
    ∃ v T' L, Stand p l e R s m args below meth c T' (locs ++ L) (cells + k) (slots + n) ∧ Qc v T'.heap L ∧ Steps p.tables e below (T.setTop g) (T'.setTop { g with pc := g.pc + 3, stack := v.toList ++ rest }) := by
  obtain ⟨cB, kB, q1, q2, q3⟩ := isOf hZ eT E
  obtain ⟨v, vm1, ⟨T', L', k', n'⟩, -, X', ⟨L, hQ, rfl, rfl, rfl⟩, st⟩ := X.virtualBack hx hown (mvT hZ w1) (mvT hZ w2) nf (mvT hZ w4) (mvT hZ w5) hyc hK q1 q3 hg hsize (Steps.refl _) hlen hstack hW hdg (fun _ _ => ⟨rfl, eT, hc, hs⟩)
  exact ⟨v, T', L, X', hQ, st⟩
theorem callSt (X : Stand p l e R s m args below meth c T locs cells slots) (hx : p.tables.exec = Jvm.exec) (hZ : Z.Warmed39 s.vm) (hown : s.vm.findClass own = some m.cls) (w1 : (Jvm.Cond.methodLink own index y).before a0 Z = true) (w2 : (Jvm.Cond.static y).before a0 Z = true) (w3 : (Jvm.Cond.initialized y.cls).before a0 Z = true) (w4 : (Jvm.Cond.code y bytes maxL ret).before a0 Z = true)
    (hyc : y.cls ≠ "java/lang/invoke/MethodHandle" ∧ y.cls ≠ "java/lang/invoke/VarHandle") (eT : T.heap = h) (hK : BackQ l R p e below s args y 3 W argsL.toArray h k n Qc)
    (hg : g.method = m) (hsize : g.locals.size = c.maxLocals) (hlen : ∀ sig, parseMethodDescriptor y.desc = some sig → argsL.length = sig.parameters.length) (hstack : g.stack = argsL.reverse ++ rest) (hW : 2 * g.monitorRoom + (rest.map fun v => v.category).sum ≤ W)
    (hdg : decode c.code g.pc = .ok (.invokestatic index, 3)) (hc : cells + k ≤ R.cells) (hs : slots + n ≤ R.slots) :
    ∃ v T' L, Stand p l e R s m args below meth c T' (locs ++ L) (cells + k) (slots + n) ∧ Qc v T'.heap L ∧ Steps p.tables e below (T.setTop g) (T'.setTop { g with pc := g.pc + 3, stack := v.toList ++ rest }) := by
  obtain ⟨v, vm1, ⟨T', L', k', n'⟩, -, X', ⟨L, hQ, rfl, rfl, rfl⟩, st⟩ := Jvm.LawKit.callS X hx hown (mvT hZ w1) (mvT hZ w2) (mvT hZ w3) (mvT hZ w4) hyc hK hg hsize hlen hstack hW hdg (fun _ _ => ⟨rfl, eT, hc, hs⟩)
  exact ⟨v, T', L, X', hQ, st _ (Steps.refl _)⟩
theorem callIf (X : Stand p l e R s m args below meth c T locs cells slots) (hx : p.tables.exec = Jvm.exec) (hZ : Z.Warmed39 s.vm) (hown : s.vm.findClass own = some m.cls) (w1 : (Jvm.Cond.methodLink own index y).before a0 Z = true) (w2 : (Jvm.Cond.declares y).before a0 Z = true) (w3 : (Jvm.Cond.interfaceMethod y.cls y.cls y.name y.desc).before a0 Z = true) (h3 : ((Jvm.Cond.interfaceMethod y.cls y.cls y.name y.desc).onTables && (Jvm.Cond.interfaceMethod y.cls y.cls y.name y.desc).keepsFace) = true) (w4 : (Jvm.Cond.selects C y z).before a0 Z = true) (w5 : (Jvm.Cond.instanceMethod z).before a0 Z = true)
    (w6 : (Jvm.Cond.publicMethod z).before a0 Z = true) (w7 : (Jvm.Cond.unhidden C y.name y.desc).before a0 Z = true) (w8 : (Jvm.Cond.castable C y.cls).before a0 Z = true)
    (hyc : y.cls ≠ "java/lang/invoke/MethodHandle" ∧ y.cls ≠ "java/lang/invoke/VarHandle") (eT : T.heap = h) (E : Exa Z h a C) (hK : BackQ l R p e below s args z 5 W (.ref a :: argsL).toArray h k n Qc)
    (hg : g.method = m) (hsize : g.locals.size = c.maxLocals) (hlen : ∀ sig, parseMethodDescriptor y.desc = some sig → argsL.length = sig.parameters.length) (hstack : g.stack = argsL.reverse ++ .ref a :: rest) (hW : 2 * g.monitorRoom + (rest.map fun v => v.category).sum ≤ W)
    (hdg : decode c.code g.pc = .ok (.invokeinterface index count, 5)) (hc : cells + k ≤ R.cells) (hs : slots + n ≤ R.slots) :
    ∃ v T' L, Stand p l e R s m args below meth c T' (locs ++ L) (cells + k) (slots + n) ∧ Qc v T'.heap L ∧ Steps p.tables e below (T.setTop g) (T'.setTop { g with pc := g.pc + 5, stack := v.toList ++ rest }) := by
  obtain ⟨cB, kB, q1, q2, q3⟩ := isOf hZ eT E
  obtain ⟨v, vm1, ⟨T', L', k', n'⟩, -, X', ⟨L, hQ, rfl, rfl, rfl⟩, st⟩ := X.interfaceBack hx hown (mvT hZ w1) (mvT hZ w2) (mvT hZ w3 h3) (mvT hZ w4) (mvT hZ w5) (mvT hZ w6) (mvT hZ w7) (mvT hZ w8) hyc hK q1 q2 q3 hg hsize (Steps.refl _) hlen hstack hW hdg (fun _ _ => ⟨rfl, eT, hc, hs⟩)
  exact ⟨v, T', L, X', hQ, st⟩
theorem callVu (X : Stand p l e R s m args below meth c T locs cells slots) (hx : p.tables.exec = Jvm.exec) (hZ : Z.Warmed39 s.vm) (hown : s.vm.findClass own = some m.cls) {owner : String} (w1 : (Jvm.Cond.methodLink own index y).before a0 Z = true) (w2 : (Jvm.Cond.sameMethod y.cls owner y.name y.desc).before a0 Z = true) (w3 : (Jvm.Cond.declares ⟨owner, y.name, y.desc⟩).before a0 Z = true) (hyc : owner ≠ "java/lang/invoke/MethodHandle" ∧ owner ≠ "java/lang/invoke/VarHandle") (w4 : (Jvm.Cond.selects C y z).before a0 Z = true) (w5 : (Jvm.Cond.instanceMethod z).before a0 Z = true)
    (eT : T.heap = h) (E : Exa Z h a C) (hK : BackQ l R p e below s args z 3 W (.ref a :: argsL).toArray h k n Qc)
    (hg : g.method = m) (hsize : g.locals.size = c.maxLocals) (hlen : ∀ sig, parseMethodDescriptor y.desc = some sig → argsL.length = sig.parameters.length) (hstack : g.stack = argsL.reverse ++ .ref a :: rest) (hW : 2 * g.monitorRoom + (rest.map fun v => v.category).sum ≤ W)
    (hdg : decode c.code g.pc = .ok (.invokevirtual index, 3)) (hc : cells + k ≤ R.cells) (hs : slots + n ≤ R.slots) :
    ∃ v T' L, Stand p l e R s m args below meth c T' (locs ++ L) (cells + k) (slots + n) ∧ Qc v T'.heap L ∧ Steps p.tables e below (T.setTop g) (T'.setTop { g with pc := g.pc + 3, stack := v.toList ++ rest }) := by
  obtain ⟨cB, kB, q1, q2, q3⟩ := isOf hZ eT E
  obtain ⟨v, vm1, ⟨T', L', k', n'⟩, -, X', ⟨L, hQ, rfl, rfl, rfl⟩, st⟩ := X.virtualBackUp hx hown (mvT hZ w1) (mvT hZ w2) (mvT hZ w3) hyc (mvT hZ w4) (mvT hZ w5) hK q1 q3 hg hsize (Steps.refl _) hlen hstack hW hdg (fun _ _ => ⟨rfl, eT, hc, hs⟩)
  exact ⟨v, T', L, X', hQ, st⟩
/-- an object of C is one of K, or it isn't, as the tables have it -/
theorem insEither (hZ : Z.Warmed39 s.vm) (hown : s.vm.findClass own = some m.cls) {K : String} (w : (Jvm.Cond.classLink own index K).before a0 Z = true) (E : Exa Z h a C) : Ins Z h a K true ∨ ∃ c t, Z.vm.findClass C = some c ∧ Z.vm.findClass K = some t ∧ Z.vm.assignable c t = false := by
  have hd : Z.vm.findClass own = some m.cls := by rw [← hZ.alike.findClass]; exact hown
  obtain ⟨t, ht, -⟩ := Cond.classLink_spec hd w {} rfl
  obtain ⟨cell, k, h1, h2, h3, h4, h5⟩ := E
  cases hq : Z.vm.assignable cell.cls t with
  | true => exact Or.inl ⟨cell, t, h1, ht, by simp [h4, hq]⟩
  | false => exact Or.inr ⟨cell.cls, t, h2, ht, hq⟩
/-- what stands behind a call that may have interned -/
def AfterS (p : Program) (l : Launch) (e : Env) (R : Room) (s : State) (m : MethodId) (args : Array Value) (below : List Frame) (meth : Method) (c : Code) (Z : State) (EL : List (String × Nat)) (own : String) (vm0 : Vm) (h : Heap) (T' : State) (locs : List Loc) (cells slots : Nat) : Prop :=
  Stand p l e R (s.setVm T'.vm) m args below meth c T' locs cells slots ∧ s.Since T'.vm T'.heap.size ∧ Z.Warmed39 T'.vm ∧ T'.vm.findClass own = some m.cls ∧ CHr Z EL vm0 h T'.vm T'.heap
theorem callSpS (X : Stand p l e R (s.setVm vm0) m args below meth c T locs cells slots) (hx : p.tables.exec = Jvm.exec) (hZ : Z.Warmed39 vm0) (hown : vm0.findClass own = some m.cls) (hS : s.Since vm0 n0) (hk : n0 ≤ h.size) (hy1 : y.name = "<init>") (w1 : (Jvm.Cond.methodLink own index y).before a0 Z = true) (w2 : (Jvm.Cond.instanceMethod y).before a0 Z = true) (w3 : (Jvm.Cond.code y bytes maxL none).before a0 Z = true)
    (hyc : y.cls ≠ "java/lang/invoke/MethodHandle" ∧ y.cls ≠ "java/lang/invoke/VarHandle") (eT : T.heap = h) (hK : BackSQ l R p e below s vm0 args y 3 W (.ref a :: argsL).toArray h k n Z EL Qc)
    (hg : g.method = m) (hsize : g.locals.size = c.maxLocals) (hlen : ∀ sig, parseMethodDescriptor y.desc = some sig → argsL.length = sig.parameters.length) (hstack : g.stack = argsL.reverse ++ .ref a :: rest) (hW : 2 * g.monitorRoom + (rest.map fun v => v.category).sum ≤ W)
    (hdg : decode c.code g.pc = .ok (.invokespecial index, 3)) (hc : cells + k ≤ R.cells) (hs : slots + n ≤ R.slots) :
    ∃ v T' L, AfterS p l e R s m args below meth c Z EL own vm0 h T' (locs ++ L) (cells + k) (slots + n) ∧ Qc v T'.heap L ∧ Steps p.tables e below (T.setTop g) (T'.setTop { g with pc := g.pc + 3, stack := v.toList ++ rest }) := by
  obtain ⟨v, vm1, ⟨T', L', k', n'⟩, -, X', h2, gr, ⟨L, hQ, rfl, rfl, rfl, hC⟩, st⟩ := X.specialBackS hx hy1 hown (mvT hZ w1) (mvT hZ w2) (mvT hZ w3) hyc hK hg hsize (Steps.refl _) hlen hstack hW hdg (fun _ _ => ⟨rfl, eT, hc, hs⟩)
  obtain ⟨b1, b2, b3, b4⟩ := rebS hS (eT ▸ hk) X' h2 gr hZ hown
  exact ⟨v, T', L, ⟨b1, b2, b3, b4, hC⟩, hQ, st⟩
theorem callViS (X : Stand p l e R (s.setVm vm0) m args below meth c T locs cells slots) (hx : p.tables.exec = Jvm.exec) (hZ : Z.Warmed39 vm0) (hown : vm0.findClass own = some m.cls) (hS : s.Since vm0 n0) (hk : n0 ≤ h.size) (w1 : (Jvm.Cond.methodLink own index y).before a0 Z = true) (w2 : (Jvm.Cond.declares y).before a0 Z = true) (nf : NotFace (s.setVm vm0) y) (w4 : (Jvm.Cond.selects C y z).before a0 Z = true) (w5 : (Jvm.Cond.instanceMethod z).before a0 Z = true)
    (hyc : y.cls ≠ "java/lang/invoke/MethodHandle" ∧ y.cls ≠ "java/lang/invoke/VarHandle") (eT : T.heap = h) (E : Exa Z h a C) (hK : BackSQ l R p e below s vm0 args z 3 W (.ref a :: argsL).toArray h k n Z EL Qc)
    (hg : g.method = m) (hsize : g.locals.size = c.maxLocals) (hlen : ∀ sig, parseMethodDescriptor y.desc = some sig → argsL.length = sig.parameters.length) (hstack : g.stack = argsL.reverse ++ .ref a :: rest) (hW : 2 * g.monitorRoom + (rest.map fun v => v.category).sum ≤ W)
    (hdg : decode c.code g.pc = .ok (.invokevirtual index, 3)) (hc : cells + k ≤ R.cells) (hs : slots + n ≤ R.slots) :
    ∃ v T' L, AfterS p l e R s m args below meth c Z EL own vm0 h T' (locs ++ L) (cells + k) (slots + n) ∧ Qc v T'.heap L ∧ Steps p.tables e below (T.setTop g) (T'.setTop { g with pc := g.pc + 3, stack := v.toList ++ rest }) := by
  obtain ⟨cB, kB, q1, q2, q3⟩ := isOf (s := s.setVm vm0) hZ eT E
  obtain ⟨v, vm1, ⟨T', L', k', n'⟩, -, X', h2, gr, ⟨L, hQ, rfl, rfl, rfl, hC⟩, st⟩ := X.virtualBackS hx hown (mvT hZ w1) (mvT hZ w2) nf (mvT hZ w4) (mvT hZ w5) hyc hK q1 q3 hg hsize (Steps.refl _) hlen hstack hW hdg (fun _ _ => ⟨rfl, eT, hc, hs⟩)
  obtain ⟨b1, b2, b3, b4⟩ := rebS hS (eT ▸ hk) X' h2 gr hZ hown
  exact ⟨v, T', L, ⟨b1, b2, b3, b4, hC⟩, hQ, st⟩
theorem callStS (X : Stand p l e R (s.setVm vm0) m args below meth c T locs cells slots) (hx : p.tables.exec = Jvm.exec) (hZ : Z.Warmed39 vm0) (hown : vm0.findClass own = some m.cls) (hS : s.Since vm0 n0) (hk : n0 ≤ h.size) (w1 : (Jvm.Cond.methodLink own index y).before a0 Z = true) (w2 : (Jvm.Cond.static y).before a0 Z = true) (w3 : (Jvm.Cond.initialized y.cls).before a0 Z = true) (w4 : (Jvm.Cond.code y bytes maxL ret).before a0 Z = true)
    (hyc : y.cls ≠ "java/lang/invoke/MethodHandle" ∧ y.cls ≠ "java/lang/invoke/VarHandle") (eT : T.heap = h) (hK : BackSQ l R p e below s vm0 args y 3 W argsL.toArray h k n Z EL Qc)
    (hg : g.method = m) (hsize : g.locals.size = c.maxLocals) (hlen : ∀ sig, parseMethodDescriptor y.desc = some sig → argsL.length = sig.parameters.length) (hstack : g.stack = argsL.reverse ++ rest) (hW : 2 * g.monitorRoom + (rest.map fun v => v.category).sum ≤ W)
    (hdg : decode c.code g.pc = .ok (.invokestatic index, 3)) (hc : cells + k ≤ R.cells) (hs : slots + n ≤ R.slots) :
    ∃ v T' L, AfterS p l e R s m args below meth c Z EL own vm0 h T' (locs ++ L) (cells + k) (slots + n) ∧ Qc v T'.heap L ∧ Steps p.tables e below (T.setTop g) (T'.setTop { g with pc := g.pc + 3, stack := v.toList ++ rest }) := by
  obtain ⟨v, vm1, ⟨T', L', k', n'⟩, -, X', h2, gr, ⟨L, hQ, rfl, rfl, rfl, hC⟩, st⟩ := callSS X hx hown (mvT hZ w1) (mvT hZ w2) (mvT hZ w3) (mvT hZ w4) hyc hK hg hsize hlen hstack hW hdg (fun _ _ => ⟨rfl, eT, hc, hs⟩)
  obtain ⟨b1, b2, b3, b4⟩ := rebS hS (eT ▸ hk) X' h2 gr hZ hown
  exact ⟨v, T', L, ⟨b1, b2, b3, b4, hC⟩, hQ, st⟩
end Calls
section Arrays
variable {p : Program} {l : Launch} {e : Env} {R : Room} {s : State} {m : MethodId} {args : Array Value} {below : List Frame} {meth : Method} {c : Code} {T : State} {locs : List Loc} {cells slots : Nat} {Z : State} {a0 : Array Value} {h : Heap} {g : JFrame} {rest : List Value} {a : Addr} {k : ClassId} {ty : FieldType} {z j x x' : Int32} {i : Nat} {vs : List Value} {d v : Value}
theorem newArr (X : Stand p l e R s m args below meth c T locs cells slots) (hx : p.tables.exec = Jvm.exec) (hZ : Z.Warmed39 s.vm) {aty : ArrayType} (w : (Jvm.Cond.arrayClass (newarray.typeOf aty)).before a0 Z = true) (eT : T.heap = h) (hg : g.method = m) (hd : decode c.code g.pc = .ok (.newarray aty, 2)) {n : Int32} (hs : g.stack = .int n :: rest)
    (hn : ¬ n < 0) {q : Nat} (hq : n.toNatClampNeg = q) (hb : q * 8 ≤ 536870912) (hc : cells + 1 ≤ R.cells) (hl : slots + q ≤ R.slots) :
    ∃ T' h' cA, Stand p l e R s m args below meth c T' locs (cells + 1) (slots + q) ∧ T'.heap = h' ∧ Ext h h' ∧ Arv Z h' h.size cA (newarray.typeOf aty) n (List.replicate q (defaultValue (newarray.typeOf aty))) (defaultValue (newarray.typeOf aty)) ∧
      ∀ target, Steps p.tables e below (T'.setTop { g with pc := g.pc + 2, stack := .ref h.size :: rest }) target → Steps p.tables e below (T.setTop g) target := by
  obtain ⟨T', h', cA, X', e', E', A', st⟩ := newP X hx hZ w eT hg hd hs hn (cap := q) (Nat.le_of_eq hq) hb hc hl
  exact ⟨T', h', cA, X', e', E', (Arv.new A' hn).pad (fun i => by have := pad_rep [] (defaultValue (newarray.typeOf aty)) q i; simpa using this), st⟩
theorem setC (X : Stand p l e R s m args below meth c T locs cells slots) (hx : p.tables.exec = Jvm.exec) (hZ : Z.Warmed39 s.vm) (eT : T.heap = h) (A : Arv Z h a k .char z vs d) (hj : j.toNatClampNeg = i) (h0 : ¬ j < 0) (hjz : j < z) (hi : i < vs.length) (hn : nar .char x = x') (hg : g.method = m) (hs : g.stack = .int x :: .int j :: .ref a :: rest) (hd : decode c.code g.pc = .ok (.castore, 1)) :
    ∃ T' h', Stand p l e R s m args below meth c T' (locs ++ [⟨a, i⟩]) cells slots ∧ T'.heap = h' ∧ Wr h h' a i (.int x') ∧ Arv Z h' a k .char z (vs.set i (.int x')) d ∧ ∀ target, Steps p.tables e below (T'.setTop { g with pc := g.pc + 1, stack := rest }) target → Steps p.tables e below (T.setTop g) target := by
  subst hj hn
  obtain ⟨cl, A1, A2, A3, A4, A5, A6⟩ := A
  obtain ⟨T', h', X', e', W', st⟩ := stC X hx hZ eT A1 (inb_of A3 ⟨h0, hjz⟩) hg hs hd
  exact ⟨T', h', X', e', W', Arv.set A1 A2 A3 A4 A5 A6 (fits_nar_char x) W' _ rfl hi, st⟩
theorem setB (X : Stand p l e R s m args below meth c T locs cells slots) (hx : p.tables.exec = Jvm.exec) (hZ : Z.Warmed39 s.vm) (eT : T.heap = h) (A : Arv Z h a k .byte z vs d) (hj : j.toNatClampNeg = i) (h0 : ¬ j < 0) (hjz : j < z) (hi : i < vs.length) (hn : nar .byte x = x') (hg : g.method = m) (hs : g.stack = .int x :: .int j :: .ref a :: rest) (hd : decode c.code g.pc = .ok (.bastore, 1)) :
    ∃ T' h', Stand p l e R s m args below meth c T' (locs ++ [⟨a, i⟩]) cells slots ∧ T'.heap = h' ∧ Wr h h' a i (.int x') ∧ Arv Z h' a k .byte z (vs.set i (.int x')) d ∧ ∀ target, Steps p.tables e below (T'.setTop { g with pc := g.pc + 1, stack := rest }) target → Steps p.tables e below (T.setTop g) target := by
  subst hj hn
  obtain ⟨cl, A1, A2, A3, A4, A5, A6⟩ := A
  obtain ⟨T', h', X', e', W', st⟩ := stB X hx hZ eT A1 (inb_of A3 ⟨h0, hjz⟩) hg hs hd
  exact ⟨T', h', X', e', W', Arv.set A1 A2 A3 A4 A5 A6 (fits_nar_byte x) W' _ rfl hi, st⟩
theorem setI (X : Stand p l e R s m args below meth c T locs cells slots) (hx : p.tables.exec = Jvm.exec) (hZ : Z.Warmed39 s.vm) (eT : T.heap = h) (A : Arv Z h a k .int z vs d) (hj : j.toNatClampNeg = i) (h0 : ¬ j < 0) (hjz : j < z) (hi : i < vs.length) (hg : g.method = m) (hs : g.stack = .int x :: .int j :: .ref a :: rest) (hd : decode c.code g.pc = .ok (.iastore, 1)) :
    ∃ T' h', Stand p l e R s m args below meth c T' (locs ++ [⟨a, i⟩]) cells slots ∧ T'.heap = h' ∧ Wr h h' a i (.int x) ∧ Arv Z h' a k .int z (vs.set i (.int x)) d ∧ ∀ target, Steps p.tables e below (T'.setTop { g with pc := g.pc + 1, stack := rest }) target → Steps p.tables e below (T.setTop g) target := by
  subst hj
  obtain ⟨cl, A1, A2, A3, A4, A5, A6⟩ := A
  obtain ⟨T', h', X', e', W', st⟩ := stI X hx hZ eT A1 (inb_of A3 ⟨h0, hjz⟩) hg hs hd
  exact ⟨T', h', X', e', W', Arv.set A1 A2 A3 A4 A5 A6 rfl W' _ rfl hi, st⟩
theorem setR (X : Stand p l e R s m args below meth c T locs cells slots) (hx : p.tables.exec = Jvm.exec) (hZ : Z.Warmed39 s.vm) (eT : T.heap = h) (A : Arv Z h a k ty z vs d) (hty : ty.isReference = true) (F : Sto Z h a v) (hfit : fits ty v = true) (hj : j.toNatClampNeg = i) (h0 : ¬ j < 0) (hjz : j < z) (hi : i < vs.length) (hg : g.method = m) (hs : g.stack = v :: .int j :: .ref a :: rest) (hd : decode c.code g.pc = .ok (.aastore, 1)) :
    ∃ T' h', Stand p l e R s m args below meth c T' (locs ++ [⟨a, i⟩]) cells slots ∧ T'.heap = h' ∧ Wr h h' a i v ∧ Arv Z h' a k ty z (vs.set i v) d ∧ ∀ target, Steps p.tables e below (T'.setTop { g with pc := g.pc + 1, stack := rest }) target → Steps p.tables e below (T.setTop g) target := by
  subst hj
  obtain ⟨cl, A1, A2, A3, A4, A5, A6⟩ := A
  obtain ⟨T', h', X', e', W', st⟩ := stR X hx hZ eT A1 (inb_of A3 ⟨h0, hjz⟩) hty F hg hs hd
  exact ⟨T', h', X', e', W', Arv.set A1 A2 A3 A4 A5 A6 hfit W' _ rfl hi, st⟩
theorem ldC (X : Stand p l e R s m args below meth c T locs cells slots) (hx : p.tables.exec = Jvm.exec) (hZ : Z.Warmed39 s.vm) (eT : T.heap = h) (A : Arv Z h a k .char z vs d) (hj : j.toNatClampNeg = i) (h0 : ¬ j < 0) (hjz : j < z) (hv : vs.getD i d = v) (hg : g.method = m) (hs : g.stack = .int j :: .ref a :: rest) (hd : decode c.code g.pc = .ok (.caload, 1)) :
    ∀ target, Steps p.tables e below (T.setTop { g with pc := g.pc + 1, stack := v :: rest }) target → Steps p.tables e below (T.setTop g) target := by
  subst hj hv
  obtain ⟨cl, A1, A2, A3, A4, A5, A6⟩ := A
  exact X.caload hx (by rw [eT]; exact A1.1) (State.isArrayOf_alike hZ.alike A1.2.1) A1.2.2 (inb_of A3 ⟨h0, hjz⟩) (A5.at (inb_of A3 ⟨h0, hjz⟩) rfl) hg hs hd
theorem ldB (X : Stand p l e R s m args below meth c T locs cells slots) (hx : p.tables.exec = Jvm.exec) (hZ : Z.Warmed39 s.vm) (eT : T.heap = h) (A : Arv Z h a k .byte z vs d) (hj : j.toNatClampNeg = i) (h0 : ¬ j < 0) (hjz : j < z) (hv : vs.getD i d = v) (hg : g.method = m) (hs : g.stack = .int j :: .ref a :: rest) (hd : decode c.code g.pc = .ok (.baload, 1)) :
    ∀ target, Steps p.tables e below (T.setTop { g with pc := g.pc + 1, stack := v :: rest }) target → Steps p.tables e below (T.setTop g) target := by
  subst hj hv
  obtain ⟨cl, A1, A2, A3, A4, A5, A6⟩ := A
  exact X.baloadBytes hx (by rw [eT]; exact A1.1) (State.isArrayOf_alike hZ.alike A1.2.1) A1.2.2 (inb_of A3 ⟨h0, hjz⟩) (A5.at (inb_of A3 ⟨h0, hjz⟩) rfl) hg hs hd
theorem ldI (X : Stand p l e R s m args below meth c T locs cells slots) (hx : p.tables.exec = Jvm.exec) (hZ : Z.Warmed39 s.vm) (eT : T.heap = h) (A : Arv Z h a k .int z vs d) (hj : j.toNatClampNeg = i) (h0 : ¬ j < 0) (hjz : j < z) (hv : vs.getD i d = v) (hg : g.method = m) (hs : g.stack = .int j :: .ref a :: rest) (hd : decode c.code g.pc = .ok (.iaload, 1)) :
    ∀ target, Steps p.tables e below (T.setTop { g with pc := g.pc + 1, stack := v :: rest }) target → Steps p.tables e below (T.setTop g) target := by
  subst hj hv
  obtain ⟨cl, A1, A2, A3, A4, A5, A6⟩ := A
  exact X.iaload hx (by rw [eT]; exact A1.1) (State.isArrayOf_alike hZ.alike A1.2.1) A1.2.2 (inb_of A3 ⟨h0, hjz⟩) (A5.at (inb_of A3 ⟨h0, hjz⟩) rfl) hg hs hd
theorem ldR (X : Stand p l e R s m args below meth c T locs cells slots) (hx : p.tables.exec = Jvm.exec) (hZ : Z.Warmed39 s.vm) (eT : T.heap = h) (A : Arv Z h a k ty z vs d) (hty : ty.isReference = true) (hj : j.toNatClampNeg = i) (h0 : ¬ j < 0) (hjz : j < z) (hv : vs.getD i d = v) (hg : g.method = m) (hs : g.stack = .int j :: .ref a :: rest) (hd : decode c.code g.pc = .ok (.aaload, 1)) :
    ∀ target, Steps p.tables e below (T.setTop { g with pc := g.pc + 1, stack := v :: rest }) target → Steps p.tables e below (T.setTop g) target := by
  subst hj hv
  obtain ⟨cl, A1, A2, A3, A4, A5, A6⟩ := A
  exact X.aaload hx (by rw [eT]; exact A1.1) (State.isArrayOf_alike hZ.alike A1.2.1) hty A1.2.2 (inb_of A3 ⟨h0, hjz⟩) (A5.at (inb_of A3 ⟨h0, hjz⟩) rfl) hg hs hd
theorem alen (X : Stand p l e R s m args below meth c T locs cells slots) (hx : p.tables.exec = Jvm.exec) (hZ : Z.Warmed39 s.vm) (eT : T.heap = h) (A : Arv Z h a k ty z vs d) (hg : g.method = m) (hs : g.stack = .ref a :: rest) (hd : decode c.code g.pc = .ok (.arraylength, 1)) :
    ∀ target, Steps p.tables e below (T.setTop { g with pc := g.pc + 1, stack := .int z :: rest }) target → Steps p.tables e below (T.setTop g) target := fun t ht => by
  obtain ⟨cl, A1, A2, A3, A4, A5, A6⟩ := A
  refine X.arraylength hx (by rw [eT]; exact A1.1) (State.isArrayOf_alike hZ.alike A1.2.1) hg hs hd t ?_
  rw [len_of A3 A4]; exact ht
end Arrays
theorem sto_arv {Z : State} {h : Heap} {a y : Addr} {k : ClassId} {ty : FieldType} {z : Int32} {vs : List Value} {d : Value} {C : String} (A : Arv Z h a k ty z vs d) (O : Ovr Z k C) (I : Ins Z h y C true) : Sto Z h a (.ref y) := by
  obtain ⟨c, A1, A2, -⟩ := A
  exact Sto.ofV A1 A2 O I
theorem own_nref {C : String} {v : Value} (h : v.isRef = true) : narrow (.object C) v = v := by
  rcases ref_cases h with rfl | ⟨_, rfl⟩ <;> rfl
theorem own_fref {C : String} {v : Value} (h : v.isRef = true) : fits (.object C) v = true := by
  rcases ref_cases h with rfl | ⟨_, rfl⟩ <;> rfl
theorem nsi_root {Z : State} {a0 : Array Value} {O K : String} {n : Nat} (w : (Jvm.Cond.noSuperclass O).before a0 Z = true) (wk : (Jvm.Cond.instantiable K n).before a0 Z = true) (hn : O ≠ K) : NS Z O K := by
  obtain ⟨c, k, h1, h2, h3, -, -⟩ := Cond.noSuperclass_spec w
  obtain ⟨t, k2, g1, -⟩ := Cond.instantiable_spec wk
  have ne := ids_ne h1 g1 hn
  refine ⟨c, t, h1, g1, fun fuel => ?_⟩
  cases fuel with
  | zero => rfl
  | succ f => simp [Vm.isSubclassAux, ne, h2, h3]
theorem nsi_no {Z : State} {a0 : Array Value} {C S K : String} {n : Nat} (w : (Jvm.Cond.superclass C S).before a0 Z = true) (wk : (Jvm.Cond.instantiable K n).before a0 Z = true) (ns : NS Z C K) (hn : C ≠ K) : ∃ c t, Z.vm.findClass C = some c ∧ Z.vm.findClass K = some t ∧ Z.vm.assignable c t = false := by
  obtain ⟨c, t, h0, g0, n3⟩ := ns
  obtain ⟨p, k, kp, h1, h2, h3, h4, h5, -, h7⟩ := Cond.superclass_spec h0 w
  obtain ⟨t', k', g1, g2, g5, g6, -⟩ := Cond.instantiable_spec wk
  cases g0.symm.trans g1
  have g7 : k'.isInterface = false := (Bool.or_eq_false_iff.mp g6).1
  have ne := ids_ne h0 g0 hn
  refine ⟨c, t, h0, g0, ?_⟩
  show Z.vm.assignableAux (255 + 1) c t = false
  simp [Vm.assignableAux, ne, h2, g2, h5, g5, g7, Vm.isSubclass, n3]
end Jvm.OwnKit
namespace Jvm.OwnKit
open Jvm Jvm.ClassFile Sem Op Lib Jvm.Free Jvm.Stand Jvm.LawKit Jvm.RoadKit Bundle
section Steps1
variable {p : Program} {l : Launch} {e : Env} {R : Room} {s : State} {m : MethodId} {args : Array Value} {below : List Frame} {meth : Method} {c : Code} {T : State} {locs : List Loc} {cells slots : Nat} {Z : State} {a0 : Array Value} {EL : List (String × Nat)} {h : Heap} {Q : Outcome → State → Prop} {pc q : Nat} {Ls Ls' : Array Slot} {st : List Value} {x y z : Int32} {jx jy jz : Int64} {a : Addr} {v w : Value} {k : Nat} {k4 : Fin 4} {i : Nat} {vs : List Value} {d : Value} {ty : FieldType} {kc : ClassId} {own C O f dd : String} {index : Nat}
theorem aL (X : Stand p l e R s m args below meth c T locs cells slots) (hx : p.tables.exec = Jvm.exec) (hd : decode c.code pc = .ok (.aload_n k4, 1)) (hq : pc + 1 = q) (hl : Ls[k4.val]? = some (.val v)) (hv : v.isRef = true) (kk : Go p.tables e below Q (T.setTop (mkF m q Ls (v :: st)))) : Go p.tables e below Q (T.setTop (mkF m pc Ls st)) := by
  subst hq; exact Go.st (XS.aloadN X.here hx rfl hd hl hv) kk
theorem aLw (X : Stand p l e R s m args below meth c T locs cells slots) (hx : p.tables.exec = Jvm.exec) (hd : decode c.code pc = .ok (.aload k, 2)) (hq : pc + 2 = q) (hl : Ls[k]? = some (.val v)) (hv : v.isRef = true) (kk : Go p.tables e below Q (T.setTop (mkF m q Ls (v :: st)))) : Go p.tables e below Q (T.setTop (mkF m pc Ls st)) := by
  subst hq; exact Go.st (XS.aload X.here hx rfl hd hl hv) kk
theorem iL (X : Stand p l e R s m args below meth c T locs cells slots) (hx : p.tables.exec = Jvm.exec) (hd : decode c.code pc = .ok (.iload_n k4, 1)) (hq : pc + 1 = q) (hl : Ls[k4.val]? = some (.val (.int x))) (kk : Go p.tables e below Q (T.setTop (mkF m q Ls (.int x :: st)))) : Go p.tables e below Q (T.setTop (mkF m pc Ls st)) := by
  subst hq; exact Go.st (XS.iloadN X.here hx rfl hd hl) kk
theorem iLw (X : Stand p l e R s m args below meth c T locs cells slots) (hx : p.tables.exec = Jvm.exec) (hd : decode c.code pc = .ok (.iload k, 2)) (hq : pc + 2 = q) (hl : Ls[k]? = some (.val (.int x))) (kk : Go p.tables e below Q (T.setTop (mkF m q Ls (.int x :: st)))) : Go p.tables e below Q (T.setTop (mkF m pc Ls st)) := by
  subst hq; exact Go.st (XS.iload X.here hx rfl hd hl) kk
theorem lL (X : Stand p l e R s m args below meth c T locs cells slots) (hx : p.tables.exec = Jvm.exec) (hd : decode c.code pc = .ok (.lload_n k4, 1)) (hq : pc + 1 = q) (hl : Ls[k4.val]? = some (.val (.long jx))) (kk : Go p.tables e below Q (T.setTop (mkF m q Ls (.long jx :: st)))) : Go p.tables e below Q (T.setTop (mkF m pc Ls st)) := by
  subst hq; exact Go.st (XS.lloadN X.here hx rfl hd hl) kk
theorem lLw (X : Stand p l e R s m args below meth c T locs cells slots) (hx : p.tables.exec = Jvm.exec) (hd : decode c.code pc = .ok (.lload k, 2)) (hq : pc + 2 = q) (hl : Ls[k]? = some (.val (.long jx))) (kk : Go p.tables e below Q (T.setTop (mkF m q Ls (.long jx :: st)))) : Go p.tables e below Q (T.setTop (mkF m pc Ls st)) := by
  subst hq; exact Go.st (XS.lload X.here hx rfl hd hl) kk
theorem sI (X : Stand p l e R s m args below meth c T locs cells slots) (hx : p.tables.exec = Jvm.exec) (hd : decode c.code pc = .ok (.istore_n k4, 1)) (hq : pc + 1 = q) (hl : storeLocals Ls k4.val (.int x) = some Ls') (kk : Go p.tables e below Q (T.setTop (mkF m q Ls' st))) : Go p.tables e below Q (T.setTop (mkF m pc Ls (.int x :: st))) := by
  subst hq; exact Go.st (XS.istoreN X.here hx rfl hd rfl hl) kk
theorem sIw (X : Stand p l e R s m args below meth c T locs cells slots) (hx : p.tables.exec = Jvm.exec) (hd : decode c.code pc = .ok (.istore k, 2)) (hq : pc + 2 = q) (hl : storeLocals Ls k (.int x) = some Ls') (kk : Go p.tables e below Q (T.setTop (mkF m q Ls' st))) : Go p.tables e below Q (T.setTop (mkF m pc Ls (.int x :: st))) := by
  subst hq; exact Go.st (XS.istore X.here hx rfl hd rfl hl) kk
theorem sL (X : Stand p l e R s m args below meth c T locs cells slots) (hx : p.tables.exec = Jvm.exec) (hd : decode c.code pc = .ok (.lstore_n k4, 1)) (hq : pc + 1 = q) (hl : storeLocals Ls k4.val (.long jx) = some Ls') (kk : Go p.tables e below Q (T.setTop (mkF m q Ls' st))) : Go p.tables e below Q (T.setTop (mkF m pc Ls (.long jx :: st))) := by
  subst hq; exact Go.st (XS.lstoreN X.here hx rfl hd rfl hl) kk
theorem sLw (X : Stand p l e R s m args below meth c T locs cells slots) (hx : p.tables.exec = Jvm.exec) (hd : decode c.code pc = .ok (.lstore k, 2)) (hq : pc + 2 = q) (hl : storeLocals Ls k (.long jx) = some Ls') (kk : Go p.tables e below Q (T.setTop (mkF m q Ls' st))) : Go p.tables e below Q (T.setTop (mkF m pc Ls (.long jx :: st))) := by
  subst hq; exact Go.st (XS.lstore X.here hx rfl hd rfl hl) kk
theorem sA (X : Stand p l e R s m args below meth c T locs cells slots) (hx : p.tables.exec = Jvm.exec) (hd : decode c.code pc = .ok (.astore_n k4, 1)) (hq : pc + 1 = q) (hv : v.isRef = true) (hl : storeLocals Ls k4.val v = some Ls') (kk : Go p.tables e below Q (T.setTop (mkF m q Ls' st))) : Go p.tables e below Q (T.setTop (mkF m pc Ls (v :: st))) := by
  subst hq; exact Go.st (XS.astoreN X.here hx rfl hd rfl hv hl) kk
theorem sAw (X : Stand p l e R s m args below meth c T locs cells slots) (hx : p.tables.exec = Jvm.exec) (hd : decode c.code pc = .ok (.astore k, 2)) (hq : pc + 2 = q) (hv : v.isRef = true) (hl : storeLocals Ls k v = some Ls') (kk : Go p.tables e below Q (T.setTop (mkF m q Ls' st))) : Go p.tables e below Q (T.setTop (mkF m pc Ls (v :: st))) := by
  subst hq; exact Go.st (XS.astore X.here hx rfl hd rfl hv hl) kk
theorem cI (X : Stand p l e R s m args below meth c T locs cells slots) (hx : p.tables.exec = Jvm.exec) {j : Int} (hd : decode c.code pc = .ok (.iconst j, 1)) (hq : pc + 1 = q) (hz : Int32.ofInt j = z) (kk : Go p.tables e below Q (T.setTop (mkF m q Ls (.int z :: st)))) : Go p.tables e below Q (T.setTop (mkF m pc Ls st)) := by
  subst hq hz; exact Go.st (XS.iconst X.here hx rfl hd) kk
theorem bI (X : Stand p l e R s m args below meth c T locs cells slots) (hx : p.tables.exec = Jvm.exec) {j : Int} (hd : decode c.code pc = .ok (.bipush j, 2)) (hq : pc + 2 = q) (hz : (Int8.ofInt j).toInt32 = z) (kk : Go p.tables e below Q (T.setTop (mkF m q Ls (.int z :: st)))) : Go p.tables e below Q (T.setTop (mkF m pc Ls st)) := by
  subst hq hz; exact Go.st (XS.bipush X.here hx rfl hd) kk
theorem pI (X : Stand p l e R s m args below meth c T locs cells slots) (hx : p.tables.exec = Jvm.exec) {j : Int} (hd : decode c.code pc = .ok (.sipush j, 3)) (hq : pc + 3 = q) (hz : (Int16.ofInt j).toInt32 = z) (kk : Go p.tables e below Q (T.setTop (mkF m q Ls (.int z :: st)))) : Go p.tables e below Q (T.setTop (mkF m pc Ls st)) := by
  subst hq hz; exact Go.st (XS.sipush X.here hx rfl hd) kk
theorem cJ (X : Stand p l e R s m args below meth c T locs cells slots) (hx : p.tables.exec = Jvm.exec) {j2 : Fin 2} (hd : decode c.code pc = .ok (.lconst j2, 1)) (hq : pc + 1 = q) (hz : Int64.ofNat j2 = jz) (kk : Go p.tables e below Q (T.setTop (mkF m q Ls (.long jz :: st)))) : Go p.tables e below Q (T.setTop (mkF m pc Ls st)) := by
  subst hq hz; exact Go.st (XS.lconst X.here hx rfl hd) kk
theorem cN (X : Stand p l e R s m args below meth c T locs cells slots) (hx : p.tables.exec = Jvm.exec) (hd : decode c.code pc = .ok (.aconst_null, 1)) (hq : pc + 1 = q) (kk : Go p.tables e below Q (T.setTop (mkF m q Ls (.null :: st)))) : Go p.tables e below Q (T.setTop (mkF m pc Ls st)) := by
  subst hq; exact Go.st (XS.aconstNull X.here hx rfl hd) kk
theorem g_iadd (X : Stand p l e R s m args below meth c T locs cells slots) (hx : p.tables.exec = Jvm.exec) (hd : decode c.code pc = .ok (.iadd, 1)) (hq : pc + 1 = q) (hz : x + y = z) (kk : Go p.tables e below Q (T.setTop (mkF m q Ls (.int z :: st)))) : Go p.tables e below Q (T.setTop (mkF m pc Ls (.int y :: .int x :: st))) := by
  subst hq hz; exact Go.st (XS.iadd X.here hx rfl hd rfl) kk
theorem g_isub (X : Stand p l e R s m args below meth c T locs cells slots) (hx : p.tables.exec = Jvm.exec) (hd : decode c.code pc = .ok (.isub, 1)) (hq : pc + 1 = q) (hz : x - y = z) (kk : Go p.tables e below Q (T.setTop (mkF m q Ls (.int z :: st)))) : Go p.tables e below Q (T.setTop (mkF m pc Ls (.int y :: .int x :: st))) := by
  subst hq hz; exact Go.st (XS.isub X.here hx rfl hd rfl) kk
theorem g_imul (X : Stand p l e R s m args below meth c T locs cells slots) (hx : p.tables.exec = Jvm.exec) (hd : decode c.code pc = .ok (.imul, 1)) (hq : pc + 1 = q) (hz : x * y = z) (kk : Go p.tables e below Q (T.setTop (mkF m q Ls (.int z :: st)))) : Go p.tables e below Q (T.setTop (mkF m pc Ls (.int y :: .int x :: st))) := by
  subst hq hz; exact Go.st (XS.imul X.here hx rfl hd rfl) kk
theorem g_iand (X : Stand p l e R s m args below meth c T locs cells slots) (hx : p.tables.exec = Jvm.exec) (hd : decode c.code pc = .ok (.iand, 1)) (hq : pc + 1 = q) (hz : x &&& y = z) (kk : Go p.tables e below Q (T.setTop (mkF m q Ls (.int z :: st)))) : Go p.tables e below Q (T.setTop (mkF m pc Ls (.int y :: .int x :: st))) := by
  subst hq hz; exact Go.st (XS.iand X.here hx rfl hd rfl) kk
theorem g_ior (X : Stand p l e R s m args below meth c T locs cells slots) (hx : p.tables.exec = Jvm.exec) (hd : decode c.code pc = .ok (.ior, 1)) (hq : pc + 1 = q) (hz : x ||| y = z) (kk : Go p.tables e below Q (T.setTop (mkF m q Ls (.int z :: st)))) : Go p.tables e below Q (T.setTop (mkF m pc Ls (.int y :: .int x :: st))) := by
  subst hq hz; exact Go.st (XS.ior X.here hx rfl hd rfl) kk
theorem g_ixor (X : Stand p l e R s m args below meth c T locs cells slots) (hx : p.tables.exec = Jvm.exec) (hd : decode c.code pc = .ok (.ixor, 1)) (hq : pc + 1 = q) (hz : x ^^^ y = z) (kk : Go p.tables e below Q (T.setTop (mkF m q Ls (.int z :: st)))) : Go p.tables e below Q (T.setTop (mkF m pc Ls (.int y :: .int x :: st))) := by
  subst hq hz; exact Go.st (XS.ixor X.here hx rfl hd rfl) kk
theorem g_ishl (X : Stand p l e R s m args below meth c T locs cells slots) (hx : p.tables.exec = Jvm.exec) (hd : decode c.code pc = .ok (.ishl, 1)) (hq : pc + 1 = q) (hz : x <<< (y &&& 31) = z) (kk : Go p.tables e below Q (T.setTop (mkF m q Ls (.int z :: st)))) : Go p.tables e below Q (T.setTop (mkF m pc Ls (.int y :: .int x :: st))) := by
  subst hq hz; exact Go.st (XS.ishl X.here hx rfl hd rfl) kk
theorem g_ishr (X : Stand p l e R s m args below meth c T locs cells slots) (hx : p.tables.exec = Jvm.exec) (hd : decode c.code pc = .ok (.ishr, 1)) (hq : pc + 1 = q) (hz : x >>> (y &&& 31) = z) (kk : Go p.tables e below Q (T.setTop (mkF m q Ls (.int z :: st)))) : Go p.tables e below Q (T.setTop (mkF m pc Ls (.int y :: .int x :: st))) := by
  subst hq hz; exact Go.st (XS.ishr X.here hx rfl hd rfl) kk
theorem g_iushr (X : Stand p l e R s m args below meth c T locs cells slots) (hx : p.tables.exec = Jvm.exec) (hd : decode c.code pc = .ok (.iushr, 1)) (hq : pc + 1 = q) (hz : (x.toUInt32 >>> (y &&& 31).toUInt32).toInt32 = z) (kk : Go p.tables e below Q (T.setTop (mkF m q Ls (.int z :: st)))) : Go p.tables e below Q (T.setTop (mkF m pc Ls (.int y :: .int x :: st))) := by
  subst hq hz; exact Go.st (XS.iushr X.here hx rfl hd rfl) kk
theorem g_irem (X : Stand p l e R s m args below meth c T locs cells slots) (hx : p.tables.exec = Jvm.exec) (hd : decode c.code pc = .ok (.irem, 1)) (hq : pc + 1 = q) (hy : y ≠ 0) (hz : x % y = z) (kk : Go p.tables e below Q (T.setTop (mkF m q Ls (.int z :: st)))) : Go p.tables e below Q (T.setTop (mkF m pc Ls (.int y :: .int x :: st))) := by
  subst hq hz; exact Go.st (iremM X hx rfl hd rfl hy) kk
theorem g_idiv (X : Stand p l e R s m args below meth c T locs cells slots) (hx : p.tables.exec = Jvm.exec) (hd : decode c.code pc = .ok (.idiv, 1)) (hq : pc + 1 = q) (hy : y ≠ 0) (hz : x / y = z) (kk : Go p.tables e below Q (T.setTop (mkF m q Ls (.int z :: st)))) : Go p.tables e below Q (T.setTop (mkF m pc Ls (.int y :: .int x :: st))) := by
  subst hq hz; exact Go.st (XS.idiv X.here hx rfl hd rfl hy) kk
theorem g_ladd (X : Stand p l e R s m args below meth c T locs cells slots) (hx : p.tables.exec = Jvm.exec) (hd : decode c.code pc = .ok (.ladd, 1)) (hq : pc + 1 = q) (hz : jx + jy = jz) (kk : Go p.tables e below Q (T.setTop (mkF m q Ls (.long jz :: st)))) : Go p.tables e below Q (T.setTop (mkF m pc Ls (.long jy :: .long jx :: st))) := by
  subst hq hz; exact Go.st (XS.ladd X.here hx rfl hd rfl) kk
theorem g_lsub (X : Stand p l e R s m args below meth c T locs cells slots) (hx : p.tables.exec = Jvm.exec) (hd : decode c.code pc = .ok (.lsub, 1)) (hq : pc + 1 = q) (hz : jx - jy = jz) (kk : Go p.tables e below Q (T.setTop (mkF m q Ls (.long jz :: st)))) : Go p.tables e below Q (T.setTop (mkF m pc Ls (.long jy :: .long jx :: st))) := by
  subst hq hz; exact Go.st (XS.lsub X.here hx rfl hd rfl) kk
theorem g_lmul (X : Stand p l e R s m args below meth c T locs cells slots) (hx : p.tables.exec = Jvm.exec) (hd : decode c.code pc = .ok (.lmul, 1)) (hq : pc + 1 = q) (hz : jx * jy = jz) (kk : Go p.tables e below Q (T.setTop (mkF m q Ls (.long jz :: st)))) : Go p.tables e below Q (T.setTop (mkF m pc Ls (.long jy :: .long jx :: st))) := by
  subst hq hz; exact Go.st (XS.lmul X.here hx rfl hd rfl) kk
theorem g_land (X : Stand p l e R s m args below meth c T locs cells slots) (hx : p.tables.exec = Jvm.exec) (hd : decode c.code pc = .ok (.land, 1)) (hq : pc + 1 = q) (hz : jx &&& jy = jz) (kk : Go p.tables e below Q (T.setTop (mkF m q Ls (.long jz :: st)))) : Go p.tables e below Q (T.setTop (mkF m pc Ls (.long jy :: .long jx :: st))) := by
  subst hq hz; exact Go.st (XS.land X.here hx rfl hd rfl) kk
theorem g_lor (X : Stand p l e R s m args below meth c T locs cells slots) (hx : p.tables.exec = Jvm.exec) (hd : decode c.code pc = .ok (.lor, 1)) (hq : pc + 1 = q) (hz : jx ||| jy = jz) (kk : Go p.tables e below Q (T.setTop (mkF m q Ls (.long jz :: st)))) : Go p.tables e below Q (T.setTop (mkF m pc Ls (.long jy :: .long jx :: st))) := by
  subst hq hz; exact Go.st (XS.lor X.here hx rfl hd rfl) kk
theorem g_lxor (X : Stand p l e R s m args below meth c T locs cells slots) (hx : p.tables.exec = Jvm.exec) (hd : decode c.code pc = .ok (.lxor, 1)) (hq : pc + 1 = q) (hz : jx ^^^ jy = jz) (kk : Go p.tables e below Q (T.setTop (mkF m q Ls (.long jz :: st)))) : Go p.tables e below Q (T.setTop (mkF m pc Ls (.long jy :: .long jx :: st))) := by
  subst hq hz; exact Go.st (XS.lxor X.here hx rfl hd rfl) kk
theorem g_ldiv (X : Stand p l e R s m args below meth c T locs cells slots) (hx : p.tables.exec = Jvm.exec) (hd : decode c.code pc = .ok (.ldiv, 1)) (hq : pc + 1 = q) (hy : jy ≠ 0) (hz : jx / jy = jz) (kk : Go p.tables e below Q (T.setTop (mkF m q Ls (.long jz :: st)))) : Go p.tables e below Q (T.setTop (mkF m pc Ls (.long jy :: .long jx :: st))) := by
  subst hq hz; exact Go.st (XS.ldiv X.here hx rfl hd rfl hy) kk
theorem g_lrem (X : Stand p l e R s m args below meth c T locs cells slots) (hx : p.tables.exec = Jvm.exec) (hd : decode c.code pc = .ok (.lrem, 1)) (hq : pc + 1 = q) (hy : jy ≠ 0) (hz : jx - (jx / jy) * jy = jz) (kk : Go p.tables e below Q (T.setTop (mkF m q Ls (.long jz :: st)))) : Go p.tables e below Q (T.setTop (mkF m pc Ls (.long jy :: .long jx :: st))) := by
  subst hq hz; exact Go.st (XS.lrem X.here hx rfl hd rfl hy) kk
theorem g_lshl (X : Stand p l e R s m args below meth c T locs cells slots) (hx : p.tables.exec = Jvm.exec) (hd : decode c.code pc = .ok (.lshl, 1)) (hq : pc + 1 = q) (hz : jx <<< (y &&& 0x3f).toInt64 = jz) (kk : Go p.tables e below Q (T.setTop (mkF m q Ls (.long jz :: st)))) : Go p.tables e below Q (T.setTop (mkF m pc Ls (.int y :: .long jx :: st))) := by
  subst hq hz; exact Go.st (XS.lshl X.here hx rfl hd rfl) kk
theorem g_lshr (X : Stand p l e R s m args below meth c T locs cells slots) (hx : p.tables.exec = Jvm.exec) (hd : decode c.code pc = .ok (.lshr, 1)) (hq : pc + 1 = q) (hz : jx >>> (y &&& 0x3f).toInt64 = jz) (kk : Go p.tables e below Q (T.setTop (mkF m q Ls (.long jz :: st)))) : Go p.tables e below Q (T.setTop (mkF m pc Ls (.int y :: .long jx :: st))) := by
  subst hq hz; exact Go.st (XS.lshr X.here hx rfl hd rfl) kk
theorem g_lushr (X : Stand p l e R s m args below meth c T locs cells slots) (hx : p.tables.exec = Jvm.exec) (hd : decode c.code pc = .ok (.lushr, 1)) (hq : pc + 1 = q) (hz : (jx.toUInt64 >>> (y &&& 0x3f).toInt64.toUInt64).toInt64 = jz) (kk : Go p.tables e below Q (T.setTop (mkF m q Ls (.long jz :: st)))) : Go p.tables e below Q (T.setTop (mkF m pc Ls (.int y :: .long jx :: st))) := by
  subst hq hz; exact Go.st (XS.lushr X.here hx rfl hd rfl) kk
theorem g_lcmp (X : Stand p l e R s m args below meth c T locs cells slots) (hx : p.tables.exec = Jvm.exec) (hd : decode c.code pc = .ok (.lcmp, 1)) (hq : pc + 1 = q) (hz : lcmpW jx jy = z) (kk : Go p.tables e below Q (T.setTop (mkF m q Ls (.int z :: st)))) : Go p.tables e below Q (T.setTop (mkF m pc Ls (.long jy :: .long jx :: st))) := by
  subst hq hz; exact Go.st (XS.lcmp X.here hx rfl hd rfl) kk
theorem g_ineg (X : Stand p l e R s m args below meth c T locs cells slots) (hx : p.tables.exec = Jvm.exec) (hd : decode c.code pc = .ok (.ineg, 1)) (hq : pc + 1 = q) (hz : -x = z) (kk : Go p.tables e below Q (T.setTop (mkF m q Ls (.int z :: st)))) : Go p.tables e below Q (T.setTop (mkF m pc Ls (.int x :: st))) := by
  subst hq hz; exact Go.st (XS.ineg X.here hx rfl hd rfl) kk
theorem g_i2b (X : Stand p l e R s m args below meth c T locs cells slots) (hx : p.tables.exec = Jvm.exec) (hd : decode c.code pc = .ok (.i2b, 1)) (hq : pc + 1 = q) (hz : x.toInt8.toInt32 = z) (kk : Go p.tables e below Q (T.setTop (mkF m q Ls (.int z :: st)))) : Go p.tables e below Q (T.setTop (mkF m pc Ls (.int x :: st))) := by
  subst hq hz; exact Go.st (XS.i2b X.here hx rfl hd rfl) kk
theorem g_i2c (X : Stand p l e R s m args below meth c T locs cells slots) (hx : p.tables.exec = Jvm.exec) (hd : decode c.code pc = .ok (.i2c, 1)) (hq : pc + 1 = q) (hz : x.toUInt32.toUInt16.toUInt32.toInt32 = z) (kk : Go p.tables e below Q (T.setTop (mkF m q Ls (.int z :: st)))) : Go p.tables e below Q (T.setTop (mkF m pc Ls (.int x :: st))) := by
  subst hq hz; exact Go.st (XS.i2c X.here hx rfl hd rfl) kk
theorem g_i2s (X : Stand p l e R s m args below meth c T locs cells slots) (hx : p.tables.exec = Jvm.exec) (hd : decode c.code pc = .ok (.i2s, 1)) (hq : pc + 1 = q) (hz : x.toInt16.toInt32 = z) (kk : Go p.tables e below Q (T.setTop (mkF m q Ls (.int z :: st)))) : Go p.tables e below Q (T.setTop (mkF m pc Ls (.int x :: st))) := by
  subst hq hz; exact Go.st (XS.i2s X.here hx rfl hd rfl) kk
theorem g_i2l (X : Stand p l e R s m args below meth c T locs cells slots) (hx : p.tables.exec = Jvm.exec) (hd : decode c.code pc = .ok (.i2l, 1)) (hq : pc + 1 = q) (hz : x.toInt64 = jz) (kk : Go p.tables e below Q (T.setTop (mkF m q Ls (.long jz :: st)))) : Go p.tables e below Q (T.setTop (mkF m pc Ls (.int x :: st))) := by
  subst hq hz; exact Go.st (XS.i2l X.here hx rfl hd rfl) kk
theorem g_l2i (X : Stand p l e R s m args below meth c T locs cells slots) (hx : p.tables.exec = Jvm.exec) (hd : decode c.code pc = .ok (.l2i, 1)) (hq : pc + 1 = q) (hz : jx.toInt32 = z) (kk : Go p.tables e below Q (T.setTop (mkF m q Ls (.int z :: st)))) : Go p.tables e below Q (T.setTop (mkF m pc Ls (.long jx :: st))) := by
  subst hq hz; exact Go.st (XS.l2i X.here hx rfl hd rfl) kk
theorem g_lneg (X : Stand p l e R s m args below meth c T locs cells slots) (hx : p.tables.exec = Jvm.exec) (hd : decode c.code pc = .ok (.lneg, 1)) (hq : pc + 1 = q) (hz : -jx = jz) (kk : Go p.tables e below Q (T.setTop (mkF m q Ls (.long jz :: st)))) : Go p.tables e below Q (T.setTop (mkF m pc Ls (.long jx :: st))) := by
  subst hq hz; exact Go.st (XS.lneg X.here hx rfl hd rfl) kk
theorem g_iinc (X : Stand p l e R s m args below meth c T locs cells slots) (hx : p.tables.exec = Jvm.exec) {j : Int} (hd : decode c.code pc = .ok (.iinc k j, 3)) (hq : pc + 3 = q) (hl : Ls[k]? = some (.val (.int x))) (hz : x + Int32.ofInt j = z) (hl2 : storeLocals Ls k (.int z) = some Ls') (kk : Go p.tables e below Q (T.setTop (mkF m q Ls' st))) : Go p.tables e below Q (T.setTop (mkF m pc Ls st)) := by
  subst hq hz; exact Go.st (XS.iinc X.here hx rfl hd hl hl2) kk
theorem g_dup (X : Stand p l e R s m args below meth c T locs cells slots) (hx : p.tables.exec = Jvm.exec) (hd : decode c.code pc = .ok (.dup, 1)) (hq : pc + 1 = q) (hc : v.category = 1) (kk : Go p.tables e below Q (T.setTop (mkF m q Ls (v :: v :: st)))) : Go p.tables e below Q (T.setTop (mkF m pc Ls (v :: st))) := by
  subst hq; exact Go.st (XS.dup X.here hx rfl hd rfl hc) kk
theorem g_dupX1 (X : Stand p l e R s m args below meth c T locs cells slots) (hx : p.tables.exec = Jvm.exec) (hd : decode c.code pc = .ok (.dup_x1, 1)) (hq : pc + 1 = q) (hc : v.category = 1) (hc2 : w.category = 1) (kk : Go p.tables e below Q (T.setTop (mkF m q Ls (v :: w :: v :: st)))) : Go p.tables e below Q (T.setTop (mkF m pc Ls (v :: w :: st))) := by
  subst hq; exact Go.st (XS.dupX1 X.here hx rfl hd rfl hc hc2) kk
theorem g_dup2 (X : Stand p l e R s m args below meth c T locs cells slots) (hx : p.tables.exec = Jvm.exec) (hd : decode c.code pc = .ok (.dup2, 1)) (hq : pc + 1 = q) (hc : v.category = 1) (hc2 : w.category = 1) (kk : Go p.tables e below Q (T.setTop (mkF m q Ls (v :: w :: v :: w :: st)))) : Go p.tables e below Q (T.setTop (mkF m pc Ls (v :: w :: st))) := by
  subst hq; exact Go.st (Jvm.Free.XT.dup2 X.here hx rfl hd rfl hc hc2) kk
theorem g_dup2L (X : Stand p l e R s m args below meth c T locs cells slots) (hx : p.tables.exec = Jvm.exec) (hd : decode c.code pc = .ok (.dup2, 1)) (hq : pc + 1 = q) (kk : Go p.tables e below Q (T.setTop (mkF m q Ls (.long jx :: .long jx :: st)))) : Go p.tables e below Q (T.setTop (mkF m pc Ls (.long jx :: st))) := by
  subst hq; exact Go.st (Jvm.Free.XT.dup2L X.here hx rfl hd rfl) kk
theorem g_pop (X : Stand p l e R s m args below meth c T locs cells slots) (hx : p.tables.exec = Jvm.exec) (hd : decode c.code pc = .ok (.pop, 1)) (hq : pc + 1 = q) (hc : v.category = 1) (kk : Go p.tables e below Q (T.setTop (mkF m q Ls st))) : Go p.tables e below Q (T.setTop (mkF m pc Ls (v :: st))) := by
  subst hq; exact Go.st (XS.pop X.here hx rfl hd rfl hc) kk
theorem g_goto (X : Stand p l e R s m args below meth c T locs cells slots) (hx : p.tables.exec = Jvm.exec) {j : Int} (hd : decode c.code pc = .ok (.goto j, 3)) (ho : 0 ≤ (pc : Int) + j) (hp : ((pc : Int) + j).toNat = q) (kk : Go p.tables e below Q (T.setTop (mkF m q Ls st))) : Go p.tables e below Q (T.setTop (mkF m pc Ls st)) := by
  exact Go.st (XS.goto X.here hx rfl rfl hd ho hp) kk
theorem ifY (X : Stand p l e R s m args below meth c T locs cells slots) (hx : p.tables.exec = Jvm.exec) {j : Int} {cd : ClassFile.Cond} (hd : decode c.code pc = .ok (.ifCond cd j, 3)) (ho : 0 ≤ (pc : Int) + j) (hp : ((pc : Int) + j).toNat = q) (hc : ifCond.holds cd x = true) (kk : Go p.tables e below Q (T.setTop (mkF m q Ls st))) : Go p.tables e below Q (T.setTop (mkF m pc Ls (.int x :: st))) := by
  exact Go.st (XS.ifYes X.here hx rfl rfl hd rfl hc ho hp) kk
theorem ifN (X : Stand p l e R s m args below meth c T locs cells slots) (hx : p.tables.exec = Jvm.exec) {j : Int} {cd : ClassFile.Cond} (hd : decode c.code pc = .ok (.ifCond cd j, 3)) (hq : pc + 3 = q) (hc : ifCond.holds cd x = false) (kk : Go p.tables e below Q (T.setTop (mkF m q Ls st))) : Go p.tables e below Q (T.setTop (mkF m pc Ls (.int x :: st))) := by
  subst hq; exact Go.st (XS.ifNo X.here hx rfl hd rfl hc) kk
theorem icY (X : Stand p l e R s m args below meth c T locs cells slots) (hx : p.tables.exec = Jvm.exec) {j : Int} {cd : ClassFile.Cond} (hd : decode c.code pc = .ok (.if_icmp cd j, 3)) (ho : 0 ≤ (pc : Int) + j) (hp : ((pc : Int) + j).toNat = q) (hc : if_icmp.holds cd x y = true) (kk : Go p.tables e below Q (T.setTop (mkF m q Ls st))) : Go p.tables e below Q (T.setTop (mkF m pc Ls (.int y :: .int x :: st))) := by
  exact Go.st (XS.icmpYes X.here hx rfl rfl hd rfl hc ho hp) kk
theorem icN (X : Stand p l e R s m args below meth c T locs cells slots) (hx : p.tables.exec = Jvm.exec) {j : Int} {cd : ClassFile.Cond} (hd : decode c.code pc = .ok (.if_icmp cd j, 3)) (hq : pc + 3 = q) (hc : if_icmp.holds cd x y = false) (kk : Go p.tables e below Q (T.setTop (mkF m q Ls st))) : Go p.tables e below Q (T.setTop (mkF m pc Ls (.int y :: .int x :: st))) := by
  subst hq; exact Go.st (XS.icmpNo X.here hx rfl hd rfl hc) kk
theorem nlY (X : Stand p l e R s m args below meth c T locs cells slots) (hx : p.tables.exec = Jvm.exec) {j : Int} (hd : decode c.code pc = .ok (.ifnull j, 3)) (ho : 0 ≤ (pc : Int) + j) (hp : ((pc : Int) + j).toNat = q) (kk : Go p.tables e below Q (T.setTop (mkF m q Ls st))) : Go p.tables e below Q (T.setTop (mkF m pc Ls (.null :: st))) := by
  exact Go.st (XS.ifnullYes X.here hx rfl rfl hd rfl ho hp) kk
theorem nlN (X : Stand p l e R s m args below meth c T locs cells slots) (hx : p.tables.exec = Jvm.exec) {j : Int} (hd : decode c.code pc = .ok (.ifnull j, 3)) (hq : pc + 3 = q) (kk : Go p.tables e below Q (T.setTop (mkF m q Ls st))) : Go p.tables e below Q (T.setTop (mkF m pc Ls (.ref a :: st))) := by
  subst hq; exact Go.st (XS.ifnullNo X.here hx rfl hd rfl) kk
theorem nnY (X : Stand p l e R s m args below meth c T locs cells slots) (hx : p.tables.exec = Jvm.exec) {j : Int} (hd : decode c.code pc = .ok (.ifnonnull j, 3)) (ho : 0 ≤ (pc : Int) + j) (hp : ((pc : Int) + j).toNat = q) (kk : Go p.tables e below Q (T.setTop (mkF m q Ls st))) : Go p.tables e below Q (T.setTop (mkF m pc Ls (.ref a :: st))) := by
  exact Go.st (XS.ifnonnullYes X.here hx rfl rfl hd rfl ho hp) kk
theorem nnN (X : Stand p l e R s m args below meth c T locs cells slots) (hx : p.tables.exec = Jvm.exec) {j : Int} (hd : decode c.code pc = .ok (.ifnonnull j, 3)) (hq : pc + 3 = q) (kk : Go p.tables e below Q (T.setTop (mkF m q Ls st))) : Go p.tables e below Q (T.setTop (mkF m pc Ls (.null :: st))) := by
  subst hq; exact Go.st (XS.ifnonnullNo X.here hx rfl hd rfl) kk
theorem g_acmp (X : Stand p l e R s m args below meth c T locs cells slots) (hx : p.tables.exec = Jvm.exec) {j : Int} {cd : ACond} (hd : decode c.code pc = .ok (.if_acmp cd j, 3)) (h1 : v.isRef = true) (h2 : w.isRef = true) {same : Bool} (hs : decide (v = w) = same) (ho : 0 ≤ (pc : Int) + j) (hp : q = if acV cd same = true then ((pc : Int) + j).toNat else pc + 3) (kk : Go p.tables e below Q (T.setTop (mkF m q Ls st))) : Go p.tables e below Q (T.setTop (mkF m pc Ls (w :: v :: st))) := by
  exact Go.st (acmp X hx rfl h1 h2 rfl hd rfl hs ho hp) kk
theorem g_new (X : Stand p l e R s m args below meth c T locs cells slots) (hx : p.tables.exec = Jvm.exec) (hZ : Z.Warmed39 s.vm) (hown : s.vm.findClass own = some m.cls) (w1 : (Jvm.Cond.classLink own index C).before a0 Z = true) (w2 : (Jvm.Cond.instantiable C k).before a0 Z = true) (w3 : (Jvm.Cond.initialized C).before a0 Z = true) (hc : cells + 1 ≤ R.cells) (hl : slots + k ≤ R.slots) (eT : T.heap = h) (hd : decode c.code pc = .ok (.new index, 3)) (hq : pc + 3 = q) (kk : ∀ (T' : State) (h' : Heap) (b : Addr), b = h.size → Stand p l e R s m args below meth c T' locs (cells + 1) (slots + k) → T'.heap = h' → Ext h h' → Exa Z h' b C → (∀ {O nm d : String} {ty : FieldType}, Laid Z a0 C O nm d → parseFieldDescriptor d = some ty → Fld Z h' b O nm d (defaultValue ty)) → Go p.tables e below Q (T'.setTop (mkF m q Ls (.ref b :: st)))) : Go p.tables e below Q (T.setTop (mkF m pc Ls st)) := by
  subst hq
  obtain ⟨T', h', X', e', E', A', D', -, st'⟩ := newO X hx hZ hown w1 w2 w3 eT (g := mkF m pc Ls st) rfl hd hc hl
  exact Go.to st' (kk T' h' _ rfl X' e' E' A' D')
theorem g_newA (X : Stand p l e R s m args below meth c T locs cells slots) (hx : p.tables.exec = Jvm.exec) (hZ : Z.Warmed39 s.vm) {aty : ArrayType} (w1 : (Jvm.Cond.arrayClass (newarray.typeOf aty)).before a0 Z = true) (hn : ¬ z < 0) {n : Nat} (hk : z.toNatClampNeg = n) (hb : n * 8 ≤ 536870912) (hc : cells + 1 ≤ R.cells) (hl : slots + n ≤ R.slots) (eT : T.heap = h) (hd : decode c.code pc = .ok (.newarray aty, 2)) (hq : pc + 2 = q) (kk : ∀ (T' : State) (h' : Heap) (kc : ClassId) (b : Addr), b = h.size → Stand p l e R s m args below meth c T' locs (cells + 1) (slots + n) → T'.heap = h' → Ext h h' → Arv Z h' b kc (newarray.typeOf aty) z (List.replicate n (defaultValue (newarray.typeOf aty))) (defaultValue (newarray.typeOf aty)) → Go p.tables e below Q (T'.setTop (mkF m q Ls (.ref b :: st)))) : Go p.tables e below Q (T.setTop (mkF m pc Ls (.int z :: st))) := by
  subst hq
  obtain ⟨T', h', kc, X', e', E', V', st'⟩ := newArr X hx hZ w1 eT (g := mkF m pc Ls (.int z :: st)) rfl hd rfl hn hk hb hc hl
  exact Go.to st' (kk T' h' kc _ rfl X' e' E' V')
theorem g_stC (X : Stand p l e R s m args below meth c T locs cells slots) (hx : p.tables.exec = Jvm.exec) (hZ : Z.Warmed39 s.vm) (A : Arv Z h a kc .char z vs d) {j : Int32} (hj : j.toNatClampNeg = i) (h0 : ¬ j < 0) (hjz : j < z) (hi : i < vs.length) (hn : nar .char x = y) (eT : T.heap = h) (hd : decode c.code pc = .ok (.castore, 1)) (hq : pc + 1 = q) (kk : ∀ (T' : State) (h' : Heap), Stand p l e R s m args below meth c T' (locs ++ [⟨a, i⟩]) cells slots → T'.heap = h' → Wr h h' a i (.int y) → Arv Z h' a kc .char z (vs.set i (.int y)) d → Go p.tables e below Q (T'.setTop (mkF m q Ls st))) : Go p.tables e below Q (T.setTop (mkF m pc Ls (.int x :: .int j :: .ref a :: st))) := by
  subst hq
  obtain ⟨T', h', X', e', W', V', st'⟩ := setC X hx hZ eT A hj h0 hjz hi hn (g := mkF m pc Ls (.int x :: .int j :: .ref a :: st)) rfl rfl hd
  exact Go.to st' (kk T' h' X' e' W' V')
theorem g_stB (X : Stand p l e R s m args below meth c T locs cells slots) (hx : p.tables.exec = Jvm.exec) (hZ : Z.Warmed39 s.vm) (A : Arv Z h a kc .byte z vs d) {j : Int32} (hj : j.toNatClampNeg = i) (h0 : ¬ j < 0) (hjz : j < z) (hi : i < vs.length) (hn : nar .byte x = y) (eT : T.heap = h) (hd : decode c.code pc = .ok (.bastore, 1)) (hq : pc + 1 = q) (kk : ∀ (T' : State) (h' : Heap), Stand p l e R s m args below meth c T' (locs ++ [⟨a, i⟩]) cells slots → T'.heap = h' → Wr h h' a i (.int y) → Arv Z h' a kc .byte z (vs.set i (.int y)) d → Go p.tables e below Q (T'.setTop (mkF m q Ls st))) : Go p.tables e below Q (T.setTop (mkF m pc Ls (.int x :: .int j :: .ref a :: st))) := by
  subst hq
  obtain ⟨T', h', X', e', W', V', st'⟩ := setB X hx hZ eT A hj h0 hjz hi hn (g := mkF m pc Ls (.int x :: .int j :: .ref a :: st)) rfl rfl hd
  exact Go.to st' (kk T' h' X' e' W' V')
theorem g_stI (X : Stand p l e R s m args below meth c T locs cells slots) (hx : p.tables.exec = Jvm.exec) (hZ : Z.Warmed39 s.vm) (A : Arv Z h a kc .int z vs d) {j : Int32} (hj : j.toNatClampNeg = i) (h0 : ¬ j < 0) (hjz : j < z) (hi : i < vs.length) (eT : T.heap = h) (hd : decode c.code pc = .ok (.iastore, 1)) (hq : pc + 1 = q) (kk : ∀ (T' : State) (h' : Heap), Stand p l e R s m args below meth c T' (locs ++ [⟨a, i⟩]) cells slots → T'.heap = h' → Wr h h' a i (.int x) → Arv Z h' a kc .int z (vs.set i (.int x)) d → Go p.tables e below Q (T'.setTop (mkF m q Ls st))) : Go p.tables e below Q (T.setTop (mkF m pc Ls (.int x :: .int j :: .ref a :: st))) := by
  subst hq
  obtain ⟨T', h', X', e', W', V', st'⟩ := setI X hx hZ eT A hj h0 hjz hi  (g := mkF m pc Ls (.int x :: .int j :: .ref a :: st)) rfl rfl hd
  exact Go.to st' (kk T' h' X' e' W' V')
theorem g_stR (X : Stand p l e R s m args below meth c T locs cells slots) (hx : p.tables.exec = Jvm.exec) (hZ : Z.Warmed39 s.vm) (A : Arv Z h a kc ty z vs d) (hty : ty.isReference = true) (F : Sto Z h a v) (hfit : fits ty v = true) {j : Int32} (hj : j.toNatClampNeg = i) (h0 : ¬ j < 0) (hjz : j < z) (hi : i < vs.length) (eT : T.heap = h) (hd : decode c.code pc = .ok (.aastore, 1)) (hq : pc + 1 = q) (kk : ∀ (T' : State) (h' : Heap), Stand p l e R s m args below meth c T' (locs ++ [⟨a, i⟩]) cells slots → T'.heap = h' → Wr h h' a i v → Arv Z h' a kc ty z (vs.set i v) d → Go p.tables e below Q (T'.setTop (mkF m q Ls st))) : Go p.tables e below Q (T.setTop (mkF m pc Ls (v :: .int j :: .ref a :: st))) := by
  subst hq
  obtain ⟨T', h', X', e', W', V', st'⟩ := setR X hx hZ eT A hty F hfit hj h0 hjz hi (g := mkF m pc Ls (v :: .int j :: .ref a :: st)) rfl rfl hd
  exact Go.to st' (kk T' h' X' e' W' V')
theorem g_ldC (X : Stand p l e R s m args below meth c T locs cells slots) (hx : p.tables.exec = Jvm.exec) (hZ : Z.Warmed39 s.vm) (A : Arv Z h a kc .char z vs d) {j : Int32} (hj : j.toNatClampNeg = i) (h0 : ¬ j < 0) (hjz : j < z) (hv : vs.getD i d = v) (eT : T.heap = h) (hd : decode c.code pc = .ok (.caload, 1)) (hq : pc + 1 = q) (kk : Go p.tables e below Q (T.setTop (mkF m q Ls (v :: st)))) : Go p.tables e below Q (T.setTop (mkF m pc Ls (.int j :: .ref a :: st))) := by
  subst hq
  exact Go.to (ldC X hx hZ eT A hj h0 hjz hv (g := mkF m pc Ls (.int j :: .ref a :: st)) rfl rfl hd) kk
theorem g_ldB (X : Stand p l e R s m args below meth c T locs cells slots) (hx : p.tables.exec = Jvm.exec) (hZ : Z.Warmed39 s.vm) (A : Arv Z h a kc .byte z vs d) {j : Int32} (hj : j.toNatClampNeg = i) (h0 : ¬ j < 0) (hjz : j < z) (hv : vs.getD i d = v) (eT : T.heap = h) (hd : decode c.code pc = .ok (.baload, 1)) (hq : pc + 1 = q) (kk : Go p.tables e below Q (T.setTop (mkF m q Ls (v :: st)))) : Go p.tables e below Q (T.setTop (mkF m pc Ls (.int j :: .ref a :: st))) := by
  subst hq
  exact Go.to (ldB X hx hZ eT A hj h0 hjz hv (g := mkF m pc Ls (.int j :: .ref a :: st)) rfl rfl hd) kk
theorem g_ldI (X : Stand p l e R s m args below meth c T locs cells slots) (hx : p.tables.exec = Jvm.exec) (hZ : Z.Warmed39 s.vm) (A : Arv Z h a kc .int z vs d) {j : Int32} (hj : j.toNatClampNeg = i) (h0 : ¬ j < 0) (hjz : j < z) (hv : vs.getD i d = v) (eT : T.heap = h) (hd : decode c.code pc = .ok (.iaload, 1)) (hq : pc + 1 = q) (kk : Go p.tables e below Q (T.setTop (mkF m q Ls (v :: st)))) : Go p.tables e below Q (T.setTop (mkF m pc Ls (.int j :: .ref a :: st))) := by
  subst hq
  exact Go.to (ldI X hx hZ eT A hj h0 hjz hv (g := mkF m pc Ls (.int j :: .ref a :: st)) rfl rfl hd) kk
theorem g_ldR (X : Stand p l e R s m args below meth c T locs cells slots) (hx : p.tables.exec = Jvm.exec) (hZ : Z.Warmed39 s.vm) (A : Arv Z h a kc ty z vs d) (hty : ty.isReference = true) {j : Int32} (hj : j.toNatClampNeg = i) (h0 : ¬ j < 0) (hjz : j < z) (hv : vs.getD i d = v) (eT : T.heap = h) (hd : decode c.code pc = .ok (.aaload, 1)) (hq : pc + 1 = q) (kk : Go p.tables e below Q (T.setTop (mkF m q Ls (v :: st)))) : Go p.tables e below Q (T.setTop (mkF m pc Ls (.int j :: .ref a :: st))) := by
  subst hq
  exact Go.to (ldR X hx hZ eT A hty hj h0 hjz hv (g := mkF m pc Ls (.int j :: .ref a :: st)) rfl rfl hd) kk
theorem g_len (X : Stand p l e R s m args below meth c T locs cells slots) (hx : p.tables.exec = Jvm.exec) (hZ : Z.Warmed39 s.vm) (A : Arv Z h a kc ty z vs d) (eT : T.heap = h) (hd : decode c.code pc = .ok (.arraylength, 1)) (hq : pc + 1 = q) (kk : Go p.tables e below Q (T.setTop (mkF m q Ls (.int z :: st)))) : Go p.tables e below Q (T.setTop (mkF m pc Ls (.ref a :: st))) := by
  subst hq
  exact Go.to (alen X hx hZ eT A (g := mkF m pc Ls (.ref a :: st)) rfl rfl hd) kk
theorem g_getF (X : Stand p l e R s m args below meth c T locs cells slots) (hx : p.tables.exec = Jvm.exec) (hZ : Z.Warmed39 s.vm) (hown : s.vm.findClass own = some m.cls) {R0 host : String} (wl : (Jvm.Cond.fieldLink own index R0 f dd).before a0 Z = true ∨ (Jvm.Cond.fieldLinkNest own index R0 f dd host).before a0 Z = true) (via : Via Z R0 O f dd) (F : Fld Z h a O f dd v) (eT : T.heap = h) (hd : decode c.code pc = .ok (.getfield index, 3)) (hq : pc + 3 = q) (kk : ∀ (T' : State), Stand p l e R s m args below meth c T' locs cells slots → T'.heap = h → Go p.tables e below Q (T'.setTop (mkF m q Ls (v :: st)))) : Go p.tables e below Q (T.setTop (mkF m pc Ls (.ref a :: st))) := by
  subst hq
  obtain ⟨T', X', e', st'⟩ := getF X hx hZ hown wl via eT F (g := mkF m pc Ls (.ref a :: st)) rfl rfl hd
  exact Go.to st' (kk T' X' e')
theorem g_putF (X : Stand p l e R s m args below meth c T locs cells slots) (hx : p.tables.exec = Jvm.exec) (hZ : Z.Warmed39 s.vm) (hown : s.vm.findClass own = some m.cls) {R0 host : String} {kk2 : Nat} (wl : (Jvm.Cond.fieldLink own index R0 f dd).before a0 Z = true ∨ (Jvm.Cond.fieldLinkNest own index R0 f dd host).before a0 Z = true) (via : Via Z R0 O f dd) {old : Value} (F : Fld Z h a O f dd old) (E : Exa Z h a C) (L : (Jvm.Cond.lays C O f dd).before a0 Z = true ∨ ((Jvm.Cond.laysFinal C O f dd).before a0 Z = true ∧ own = O ∧ meth.name = "<init>")) (wi : (Jvm.Cond.instantiable C kk2).before a0 Z = true) (hty : parseFieldDescriptor dd = some ty) (hn : narrow ty v = v) (hf : fits ty v = true) (eT : T.heap = h) (hd : decode c.code pc = .ok (.putfield index, 3)) (hq : pc + 3 = q) (kk : ∀ (T' : State) (h' : Heap), Stand p l e R s m args below meth c T' (locs ++ [⟨a, Jvm.RoadKit.slotOf Z O f dd⟩]) cells slots → T'.heap = h' → Wr h h' a (Jvm.RoadKit.slotOf Z O f dd) v → Go p.tables e below Q (T'.setTop (mkF m q Ls st))) : Go p.tables e below Q (T.setTop (mkF m pc Ls (v :: .ref a :: st))) := by
  subst hq
  obtain ⟨T', h', X', e', W', st'⟩ := putF X hx hZ hown wl via eT F E L wi hty hn hf (g := mkF m pc Ls (v :: .ref a :: st)) rfl rfl hd
  exact Go.to st' (kk T' h' X' e' W')
theorem g_getS (X : Stand p l e R s m args below meth c T locs cells slots) (hx : p.tables.exec = Jvm.exec) (hZ : Z.Warmed39 s.vm) (hown : s.vm.findClass own = some m.cls) {R0 host : String} (wl : (Jvm.Cond.fieldLink own index R0 f dd).before a0 Z = true ∨ (Jvm.Cond.fieldLinkNest own index R0 f dd host).before a0 Z = true) (via : Via Z R0 O f dd) (F : Sta Z h O f dd v) (eT : T.heap = h) (hd : decode c.code pc = .ok (.getstatic index, 3)) (hq : pc + 3 = q) (kk : ∀ (T' : State), Stand p l e R s m args below meth c T' locs cells slots → T'.heap = h → Go p.tables e below Q (T'.setTop (mkF m q Ls (v :: st)))) : Go p.tables e below Q (T.setTop (mkF m pc Ls st)) := by
  subst hq
  obtain ⟨T', X', e', st'⟩ := getS2 X hx hZ hown wl via eT F (g := mkF m pc Ls st) rfl hd
  exact Go.to st' (kk T' X' e')
theorem g_cast (X : Stand p l e R s m args below meth c T locs cells slots) (hx : p.tables.exec = Jvm.exec) (hZ : Z.Warmed39 s.vm) (hown : s.vm.findClass own = some m.cls) {K : String} (w1 : (Jvm.Cond.classLink own index K).before a0 Z = true) (I : Ins Z h a K true) (eT : T.heap = h) (hd : decode c.code pc = .ok (.checkcast index, 3)) (hq : pc + 3 = q) (kk : ∀ (T' : State), Stand p l e R s m args below meth c T' locs cells slots → T'.heap = h → Go p.tables e below Q (T'.setTop (mkF m q Ls (.ref a :: st)))) : Go p.tables e below Q (T.setTop (mkF m pc Ls (.ref a :: st))) := by
  subst hq
  obtain ⟨T', X', e', st'⟩ := castY X hx hZ hown w1 eT I (g := mkF m pc Ls (.ref a :: st)) rfl rfl hd
  exact Go.to st' (kk T' X' e')
theorem g_insY (X : Stand p l e R s m args below meth c T locs cells slots) (hx : p.tables.exec = Jvm.exec) (hZ : Z.Warmed39 s.vm) (hown : s.vm.findClass own = some m.cls) {K : String} (w1 : (Jvm.Cond.classLink own index K).before a0 Z = true) (I : Ins Z h a K true) (eT : T.heap = h) (hd : decode c.code pc = .ok (.instanceof index, 3)) (hq : pc + 3 = q) (kk : ∀ (T' : State), Stand p l e R s m args below meth c T' locs cells slots → T'.heap = h → Go p.tables e below Q (T'.setTop (mkF m q Ls (.int 1 :: st)))) : Go p.tables e below Q (T.setTop (mkF m pc Ls (.ref a :: st))) := by
  subst hq
  obtain ⟨T', X', e', st'⟩ := instY X hx hZ hown w1 eT I (g := mkF m pc Ls (.ref a :: st)) rfl rfl hd
  exact Go.to st' (kk T' X' e')
theorem g_insN (X : Stand p l e R s m args below meth c T locs cells slots) (hx : p.tables.exec = Jvm.exec) (hZ : Z.Warmed39 s.vm) (hown : s.vm.findClass own = some m.cls) {K : String} (w1 : (Jvm.Cond.classLink own index K).before a0 Z = true) (E : Exa Z h a C) (F : ∃ c t, Z.vm.findClass C = some c ∧ Z.vm.findClass K = some t ∧ Z.vm.assignable c t = false) (eT : T.heap = h) (hd : decode c.code pc = .ok (.instanceof index, 3)) (hq : pc + 3 = q) (kk : ∀ (T' : State), Stand p l e R s m args below meth c T' locs cells slots → T'.heap = h → Go p.tables e below Q (T'.setTop (mkF m q Ls (.int 0 :: st)))) : Go p.tables e below Q (T.setTop (mkF m pc Ls (.ref a :: st))) := by
  subst hq
  obtain ⟨T', X', e', st'⟩ := instNo X hx hZ hown w1 eT E F (g := mkF m pc Ls (.ref a :: st)) rfl rfl hd
  exact Go.to st' (kk T' X' e')
theorem g_init0 (X : Stand p l e R s m args below meth c T locs cells slots) (hx : p.tables.exec = Jvm.exec) (hZ : Z.Warmed39 s.vm) (hown : s.vm.findClass own = some m.cls) (w1 : (Jvm.Cond.methodLink own index Lib.objectInit).before a0 Z = true) (w2 : (Jvm.Cond.instanceMethod Lib.objectInit).before a0 Z = true) (w3 : (Jvm.Cond.code Lib.objectInit ⟨#[0xb1]⟩ 1 none).before a0 Z = true) (hsize : Ls.size = c.maxLocals) (hf : 1 ≤ R.frames) {W : Nat} (hW : (st.map fun v => v.category).sum ≤ W) (hl : W + 12 ≤ R.locals) (eT : T.heap = h) (hd : decode c.code pc = .ok (.invokespecial index, 3)) (hq : pc + 3 = q) (kk : ∀ (T' : State), Stand p l e R s m args below meth c T' locs cells slots → T'.heap = h → Go p.tables e below Q (T'.setTop (mkF m q Ls st))) : Go p.tables e below Q (T.setTop (mkF m pc Ls (.ref a :: st))) := by
  subst hq
  obtain ⟨T', X', e', st'⟩ := initO X hx hZ hown w1 w2 w3 eT (g := mkF m pc Ls (.ref a :: st)) rfl hsize rfl hd hf (W := W) (by show 2 * 0 + _ ≤ _; omega) hl
  exact Go.to st' (kk T' X' e')
theorem g_ldc {vm0 : Vm} (X : Stand p l e R (s.setVm vm0) m args below meth c T locs cells slots) (hx : p.tables.exec = Jvm.exec) (hZ : Z.Warmed39 vm0) (hown : vm0.findClass own = some m.cls) {text : String} (w : (Jvm.Cond.stringLink own index text).before a0 Z = true) (wS : ∀ a ∈ Bundle.stringAtoms, a.before a0 Z = true) {k0 : Nat} (hS : s.Since vm0 k0) (hk : k0 ≤ h.size) (hEL : EW Z a0 EL) (hmem : (own, index) ∈ EL) (H : CHv Z EL vm0 h) (ht : (∀ c ∈ text.toList, c.toNat < 256) ∧ text.toList.map (fun c => Value.int (Jvm.Lit.byteI c.toNat.toUInt16)) = vs) (hz : ¬ z < 0) (hl : z.toNatClampNeg = vs.length) {n : Nat} (hn : 4 * text.toList.length ≤ n) (hbig : n ≤ 536870912) (hc : cells + 2 ≤ R.cells) (hl' : slots + (n + 4) ≤ R.slots) (eT : T.heap = h) (hd : decode c.code pc = .ok (.ldc index, 2)) (hq : pc + 2 = q) (kk : ∀ (a : Addr) (T' : State) (h' : Heap) (k1 : Nat) (b : Addr) (k : ClassId), Stand p l e R (s.setVm T'.vm) m args below meth c T' locs (cells + 2) (slots + (n + 4)) → T'.heap = h' → Ext h h' → s.Since T'.vm k1 → k1 ≤ h'.size → Z.Warmed39 T'.vm → T'.vm.findClass own = some m.cls → Exa Z h' a "java/lang/String" → Fld Z h' a "java/lang/String" "coder" "B" (.int 0) → Fld Z h' a "java/lang/String" "value" "[B" (.ref b) → Arv Z h' b k .byte z vs (.int 0) → a < h'.size → b < h'.size → CHr Z EL vm0 h T'.vm h' → (∀ x, Safe Z EL T'.vm h' x → x ≠ a ∧ x ≠ b) → Go p.tables e below Q (T'.setTop (mkF m q Ls (.ref a :: st)))) : Go p.tables e below Q (T.setTop (mkF m pc Ls st)) := by
  subst hq
  obtain ⟨a, T', h', k1, b, k, X', e', E', S', hk', hZ', ho', A', F1, F2, V', l1, l2, R', -, sn, st'⟩ := ldcCH X hx hZ hown w wS eT hS hk hEL hmem H ht hz hl (g := mkF m pc Ls st) rfl hd hn hbig hc hl'
  exact Go.to st' (kk a T' h' k1 b k X' e' E' S' hk' hZ' ho' A' F1 F2 V' l1 l2 R' sn)
theorem g_ldcI (X : Stand p l e R s m args below meth c T locs cells slots) (hx : p.tables.exec = Jvm.exec) {a1 : Array Value} (hZ : Z.Warmed39 s.vm) (hown : s.vm.findClass own = some m.cls) (w : (Jvm.Cond.constant own index z).before a0 Z = true) (hd : decode c.code pc = .ok (.ldc index, 2)) (hq : pc + 2 = q) (kk : Go p.tables e below Q (T.setTop (mkF m q Ls (.int z :: st)))) : Go p.tables e below Q (T.setTop (mkF m pc Ls st)) := by
  subst hq; exact Go.to (X.ldcInt hx hown (mvT hZ w) (g := mkF m pc Ls st) rfl hd) kk
theorem g_sp {y : MethodName} {bytes : ByteArray} {maxL : Nat} {W nk ns : Nat} {argsL st0 : List Value} {Qc : Option Value → Heap → List Loc → Prop} (X : Stand p l e R s m args below meth c T locs cells slots) (hx : p.tables.exec = Jvm.exec) (hZ : Z.Warmed39 s.vm) (hown : s.vm.findClass own = some m.cls) (w1 : (Jvm.Cond.methodLink own index y).before a0 Z = true) (w2 : (Jvm.Cond.instanceMethod y).before a0 Z = true) (w3 : (Jvm.Cond.code y bytes maxL none).before a0 Z = true) (hy1 : y.name = "<init>") (hyc : y.cls ≠ "java/lang/invoke/MethodHandle" ∧ y.cls ≠ "java/lang/invoke/VarHandle") (eT : T.heap = h) (hK : BackQ l R p e below s args y 3 W ((.ref a :: argsL).toArray) h nk ns Qc) (hsize : Ls.size = c.maxLocals) (hlen : ∀ sig, parseMethodDescriptor y.desc = some sig → argsL.length = sig.parameters.length) (hst : st0 = argsL.reverse ++ .ref a :: st) (hW : (st.map fun v => v.category).sum ≤ W) (hd : decode c.code pc = .ok (.invokespecial index, 3)) (hq : pc + 3 = q) (hc : cells + nk ≤ R.cells) (hs : slots + ns ≤ R.slots) (kk : ∀ (v : Option Value) (T' : State) (L : List Loc), Stand p l e R s m args below meth c T' (locs ++ L) (cells + nk) (slots + ns) → Qc v T'.heap L → Go p.tables e below Q (T'.setTop (mkF m q Ls (v.toList ++ st)))) : Go p.tables e below Q (T.setTop (mkF m pc Ls st0)) := by
  subst hq
  obtain ⟨v, T', L, X', hQ, st'⟩ := callSp X hx hZ hown hy1 w1 w2 w3 hyc eT hK (g := mkF m pc Ls st0) rfl hsize hlen hst (by show 2 * 0 + _ ≤ _; omega) hd hc hs
  exact Go.run st' (kk v T' L X' hQ)
theorem g_st {y : MethodName} {bytes : ByteArray} {maxL : Nat} {ret : Option FieldType} {W nk ns : Nat} {argsL st0 : List Value} {Qc : Option Value → Heap → List Loc → Prop} (X : Stand p l e R s m args below meth c T locs cells slots) (hx : p.tables.exec = Jvm.exec) (hZ : Z.Warmed39 s.vm) (hown : s.vm.findClass own = some m.cls) (w1 : (Jvm.Cond.methodLink own index y).before a0 Z = true) (w2 : (Jvm.Cond.static y).before a0 Z = true) (w3 : (Jvm.Cond.initialized y.cls).before a0 Z = true) (w4 : (Jvm.Cond.code y bytes maxL ret).before a0 Z = true) (hyc : y.cls ≠ "java/lang/invoke/MethodHandle" ∧ y.cls ≠ "java/lang/invoke/VarHandle") (eT : T.heap = h) (hK : BackQ l R p e below s args y 3 W (argsL.toArray) h nk ns Qc) (hsize : Ls.size = c.maxLocals) (hlen : ∀ sig, parseMethodDescriptor y.desc = some sig → argsL.length = sig.parameters.length) (hst : st0 = argsL.reverse ++ st) (hW : (st.map fun v => v.category).sum ≤ W) (hd : decode c.code pc = .ok (.invokestatic index, 3)) (hq : pc + 3 = q) (hc : cells + nk ≤ R.cells) (hs : slots + ns ≤ R.slots) (kk : ∀ (v : Option Value) (T' : State) (L : List Loc), Stand p l e R s m args below meth c T' (locs ++ L) (cells + nk) (slots + ns) → Qc v T'.heap L → Go p.tables e below Q (T'.setTop (mkF m q Ls (v.toList ++ st)))) : Go p.tables e below Q (T.setTop (mkF m pc Ls st0)) := by
  subst hq
  obtain ⟨v, T', L, X', hQ, st'⟩ := callSt X hx hZ hown w1 w2 w3 w4 hyc eT hK (g := mkF m pc Ls st0) rfl hsize hlen hst (by show 2 * 0 + _ ≤ _; omega) hd hc hs
  exact Go.run st' (kk v T' L X' hQ)
theorem g_vi {y z : MethodName} {W nk ns : Nat} {argsL st0 : List Value} {Qc : Option Value → Heap → List Loc → Prop} (X : Stand p l e R s m args below meth c T locs cells slots) (hx : p.tables.exec = Jvm.exec) (hZ : Z.Warmed39 s.vm) (hown : s.vm.findClass own = some m.cls) (w1 : (Jvm.Cond.methodLink own index y).before a0 Z = true) (w2 : (Jvm.Cond.declares y).before a0 Z = true) (nf : NotFace s y) (w4 : (Jvm.Cond.selects C y z).before a0 Z = true) (w5 : (Jvm.Cond.instanceMethod z).before a0 Z = true) (hyc : y.cls ≠ "java/lang/invoke/MethodHandle" ∧ y.cls ≠ "java/lang/invoke/VarHandle") (E : Exa Z h a C) (eT : T.heap = h) (hK : BackQ l R p e below s args z 3 W ((.ref a :: argsL).toArray) h nk ns Qc) (hsize : Ls.size = c.maxLocals) (hlen : ∀ sig, parseMethodDescriptor y.desc = some sig → argsL.length = sig.parameters.length) (hst : st0 = argsL.reverse ++ .ref a :: st) (hW : (st.map fun v => v.category).sum ≤ W) (hd : decode c.code pc = .ok (.invokevirtual index, 3)) (hq : pc + 3 = q) (hc : cells + nk ≤ R.cells) (hs : slots + ns ≤ R.slots) (kk : ∀ (v : Option Value) (T' : State) (L : List Loc), Stand p l e R s m args below meth c T' (locs ++ L) (cells + nk) (slots + ns) → Qc v T'.heap L → Go p.tables e below Q (T'.setTop (mkF m q Ls (v.toList ++ st)))) : Go p.tables e below Q (T.setTop (mkF m pc Ls st0)) := by
  subst hq
  obtain ⟨v, T', L, X', hQ, st'⟩ := callVi X hx hZ hown w1 w2 nf w4 w5 hyc eT E hK (g := mkF m pc Ls st0) rfl hsize hlen hst (by show 2 * 0 + _ ≤ _; omega) hd hc hs
  exact Go.run st' (kk v T' L X' hQ)
theorem g_vu {y z : MethodName} {W nk ns : Nat} {argsL st0 : List Value} {Qc : Option Value → Heap → List Loc → Prop} (X : Stand p l e R s m args below meth c T locs cells slots) (hx : p.tables.exec = Jvm.exec) (hZ : Z.Warmed39 s.vm) (hown : s.vm.findClass own = some m.cls) {owner : String} (w1 : (Jvm.Cond.methodLink own index y).before a0 Z = true) (w2 : (Jvm.Cond.sameMethod y.cls owner y.name y.desc).before a0 Z = true) (w3 : (Jvm.Cond.declares ⟨owner, y.name, y.desc⟩).before a0 Z = true) (hyc : owner ≠ "java/lang/invoke/MethodHandle" ∧ owner ≠ "java/lang/invoke/VarHandle") (w4 : (Jvm.Cond.selects C y z).before a0 Z = true) (w5 : (Jvm.Cond.instanceMethod z).before a0 Z = true) (E : Exa Z h a C) (eT : T.heap = h) (hK : BackQ l R p e below s args z 3 W ((.ref a :: argsL).toArray) h nk ns Qc) (hsize : Ls.size = c.maxLocals) (hlen : ∀ sig, parseMethodDescriptor y.desc = some sig → argsL.length = sig.parameters.length) (hst : st0 = argsL.reverse ++ .ref a :: st) (hW : (st.map fun v => v.category).sum ≤ W) (hd : decode c.code pc = .ok (.invokevirtual index, 3)) (hq : pc + 3 = q) (hc : cells + nk ≤ R.cells) (hs : slots + ns ≤ R.slots) (kk : ∀ (v : Option Value) (T' : State) (L : List Loc), Stand p l e R s m args below meth c T' (locs ++ L) (cells + nk) (slots + ns) → Qc v T'.heap L → Go p.tables e below Q (T'.setTop (mkF m q Ls (v.toList ++ st)))) : Go p.tables e below Q (T.setTop (mkF m pc Ls st0)) := by
  subst hq
  obtain ⟨v, T', L, X', hQ, st'⟩ := callVu X hx hZ hown w1 w2 w3 hyc w4 w5 eT E hK (g := mkF m pc Ls st0) rfl hsize hlen hst (by show 2 * 0 + _ ≤ _; omega) hd hc hs
  exact Go.run st' (kk v T' L X' hQ)
theorem g_if {y z : MethodName} {W nk ns : Nat} {argsL st0 : List Value} {Qc : Option Value → Heap → List Loc → Prop} {count : Nat} (X : Stand p l e R s m args below meth c T locs cells slots) (hx : p.tables.exec = Jvm.exec) (hZ : Z.Warmed39 s.vm) (hown : s.vm.findClass own = some m.cls) (w1 : (Jvm.Cond.methodLink own index y).before a0 Z = true) (w2 : (Jvm.Cond.declares y).before a0 Z = true) (w3 : (Jvm.Cond.interfaceMethod y.cls y.cls y.name y.desc).before a0 Z = true) (h3 : ((Jvm.Cond.interfaceMethod y.cls y.cls y.name y.desc).onTables && (Jvm.Cond.interfaceMethod y.cls y.cls y.name y.desc).keepsFace) = true) (w4 : (Jvm.Cond.selects C y z).before a0 Z = true) (w5 : (Jvm.Cond.instanceMethod z).before a0 Z = true) (w6 : (Jvm.Cond.publicMethod z).before a0 Z = true) (w7 : (Jvm.Cond.unhidden C y.name y.desc).before a0 Z = true) (w8 : (Jvm.Cond.castable C y.cls).before a0 Z = true) (hyc : y.cls ≠ "java/lang/invoke/MethodHandle" ∧ y.cls ≠ "java/lang/invoke/VarHandle") (E : Exa Z h a C) (eT : T.heap = h) (hK : BackQ l R p e below s args z 5 W ((.ref a :: argsL).toArray) h nk ns Qc) (hsize : Ls.size = c.maxLocals) (hlen : ∀ sig, parseMethodDescriptor y.desc = some sig → argsL.length = sig.parameters.length) (hst : st0 = argsL.reverse ++ .ref a :: st) (hW : (st.map fun v => v.category).sum ≤ W) (hd : decode c.code pc = .ok (.invokeinterface index count, 5)) (hq : pc + 5 = q) (hc : cells + nk ≤ R.cells) (hs : slots + ns ≤ R.slots) (kk : ∀ (v : Option Value) (T' : State) (L : List Loc), Stand p l e R s m args below meth c T' (locs ++ L) (cells + nk) (slots + ns) → Qc v T'.heap L → Go p.tables e below Q (T'.setTop (mkF m q Ls (v.toList ++ st)))) : Go p.tables e below Q (T.setTop (mkF m pc Ls st0)) := by
  subst hq
  obtain ⟨v, T', L, X', hQ, st'⟩ := callIf X hx hZ hown w1 w2 w3 h3 w4 w5 w6 w7 w8 hyc eT E hK (g := mkF m pc Ls st0) rfl hsize hlen hst (by show 2 * 0 + _ ≤ _; omega) hd hc hs
  exact Go.run st' (kk v T' L X' hQ)
theorem g_spS {vm0 : Vm} {y : MethodName} {bytes : ByteArray} {maxL : Nat} {W nk ns : Nat} {argsL st0 : List Value} {Qc : Option Value → Heap → List Loc → Prop} (X : Stand p l e R (s.setVm vm0) m args below meth c T locs cells slots) (hx : p.tables.exec = Jvm.exec) (hZ : Z.Warmed39 vm0) (hown : vm0.findClass own = some m.cls) {n0 : Nat} (hS : s.Since vm0 n0) (hk : n0 ≤ h.size) (w1 : (Jvm.Cond.methodLink own index y).before a0 Z = true) (w2 : (Jvm.Cond.instanceMethod y).before a0 Z = true) (w3 : (Jvm.Cond.code y bytes maxL none).before a0 Z = true) (hy1 : y.name = "<init>") (hyc : y.cls ≠ "java/lang/invoke/MethodHandle" ∧ y.cls ≠ "java/lang/invoke/VarHandle") (eT : T.heap = h) (hK : BackSQ l R p e below s vm0 args y 3 W ((.ref a :: argsL).toArray) h nk ns Z EL Qc) (hsize : Ls.size = c.maxLocals) (hlen : ∀ sig, parseMethodDescriptor y.desc = some sig → argsL.length = sig.parameters.length) (hst : st0 = argsL.reverse ++ .ref a :: st) (hW : (st.map fun v => v.category).sum ≤ W) (hd : decode c.code pc = .ok (.invokespecial index, 3)) (hq : pc + 3 = q) (hc : cells + nk ≤ R.cells) (hs : slots + ns ≤ R.slots) (kk : ∀ (v : Option Value) (T' : State) (L : List Loc), AfterS p l e R s m args below meth c Z EL own vm0 h T' (locs ++ L) (cells + nk) (slots + ns) → Qc v T'.heap L → Go p.tables e below Q (T'.setTop (mkF m q Ls (v.toList ++ st)))) : Go p.tables e below Q (T.setTop (mkF m pc Ls st0)) := by
  subst hq
  obtain ⟨v, T', L, X', hQ, st'⟩ := callSpS X hx hZ hown hS hk hy1 w1 w2 w3 hyc eT hK (g := mkF m pc Ls st0) rfl hsize hlen hst (by show 2 * 0 + _ ≤ _; omega) hd hc hs
  exact Go.run st' (kk v T' L X' hQ)
theorem g_stS {vm0 : Vm} {y : MethodName} {bytes : ByteArray} {maxL : Nat} {ret : Option FieldType} {W nk ns : Nat} {argsL st0 : List Value} {Qc : Option Value → Heap → List Loc → Prop} (X : Stand p l e R (s.setVm vm0) m args below meth c T locs cells slots) (hx : p.tables.exec = Jvm.exec) (hZ : Z.Warmed39 vm0) (hown : vm0.findClass own = some m.cls) {n0 : Nat} (hS : s.Since vm0 n0) (hk : n0 ≤ h.size) (w1 : (Jvm.Cond.methodLink own index y).before a0 Z = true) (w2 : (Jvm.Cond.static y).before a0 Z = true) (w3 : (Jvm.Cond.initialized y.cls).before a0 Z = true) (w4 : (Jvm.Cond.code y bytes maxL ret).before a0 Z = true) (hyc : y.cls ≠ "java/lang/invoke/MethodHandle" ∧ y.cls ≠ "java/lang/invoke/VarHandle") (eT : T.heap = h) (hK : BackSQ l R p e below s vm0 args y 3 W (argsL.toArray) h nk ns Z EL Qc) (hsize : Ls.size = c.maxLocals) (hlen : ∀ sig, parseMethodDescriptor y.desc = some sig → argsL.length = sig.parameters.length) (hst : st0 = argsL.reverse ++ st) (hW : (st.map fun v => v.category).sum ≤ W) (hd : decode c.code pc = .ok (.invokestatic index, 3)) (hq : pc + 3 = q) (hc : cells + nk ≤ R.cells) (hs : slots + ns ≤ R.slots) (kk : ∀ (v : Option Value) (T' : State) (L : List Loc), AfterS p l e R s m args below meth c Z EL own vm0 h T' (locs ++ L) (cells + nk) (slots + ns) → Qc v T'.heap L → Go p.tables e below Q (T'.setTop (mkF m q Ls (v.toList ++ st)))) : Go p.tables e below Q (T.setTop (mkF m pc Ls st0)) := by
  subst hq
  obtain ⟨v, T', L, X', hQ, st'⟩ := callStS X hx hZ hown hS hk w1 w2 w3 w4 hyc eT hK (g := mkF m pc Ls st0) rfl hsize hlen hst (by show 2 * 0 + _ ≤ _; omega) hd hc hs
  exact Go.run st' (kk v T' L X' hQ)
theorem g_viS {vm0 : Vm} {y z : MethodName} {W nk ns : Nat} {argsL st0 : List Value} {Qc : Option Value → Heap → List Loc → Prop} (X : Stand p l e R (s.setVm vm0) m args below meth c T locs cells slots) (hx : p.tables.exec = Jvm.exec) (hZ : Z.Warmed39 vm0) (hown : vm0.findClass own = some m.cls) {n0 : Nat} (hS : s.Since vm0 n0) (hk : n0 ≤ h.size) (w1 : (Jvm.Cond.methodLink own index y).before a0 Z = true) (w2 : (Jvm.Cond.declares y).before a0 Z = true) (nf : NotFace (s.setVm vm0) y) (w4 : (Jvm.Cond.selects C y z).before a0 Z = true) (w5 : (Jvm.Cond.instanceMethod z).before a0 Z = true) (hyc : y.cls ≠ "java/lang/invoke/MethodHandle" ∧ y.cls ≠ "java/lang/invoke/VarHandle") (E : Exa Z h a C) (eT : T.heap = h) (hK : BackSQ l R p e below s vm0 args z 3 W ((.ref a :: argsL).toArray) h nk ns Z EL Qc) (hsize : Ls.size = c.maxLocals) (hlen : ∀ sig, parseMethodDescriptor y.desc = some sig → argsL.length = sig.parameters.length) (hst : st0 = argsL.reverse ++ .ref a :: st) (hW : (st.map fun v => v.category).sum ≤ W) (hd : decode c.code pc = .ok (.invokevirtual index, 3)) (hq : pc + 3 = q) (hc : cells + nk ≤ R.cells) (hs : slots + ns ≤ R.slots) (kk : ∀ (v : Option Value) (T' : State) (L : List Loc), AfterS p l e R s m args below meth c Z EL own vm0 h T' (locs ++ L) (cells + nk) (slots + ns) → Qc v T'.heap L → Go p.tables e below Q (T'.setTop (mkF m q Ls (v.toList ++ st)))) : Go p.tables e below Q (T.setTop (mkF m pc Ls st0)) := by
  subst hq
  obtain ⟨v, T', L, X', hQ, st'⟩ := callViS X hx hZ hown hS hk w1 w2 nf w4 w5 hyc eT E hK (g := mkF m pc Ls st0) rfl hsize hlen hst (by show 2 * 0 + _ ≤ _; omega) hd hc hs
  exact Go.run st' (kk v T' L X' hQ)
theorem g_newR (X : Stand p l e R s m args below meth c T locs cells slots) (hx : p.tables.exec = Jvm.exec) (hZ : Z.Warmed39 s.vm) (hown : s.vm.findClass own = some m.cls) (w1 : (Jvm.Cond.classLink own index C).before a0 Z = true) (w2 : (Jvm.Cond.arrayOver (.object C)).before a0 Z = true) {ad : String} (had : "[" ++ (FieldType.object C).toString = ad) (hn : ¬ z < 0) {n : Nat} (hk : z.toNatClampNeg = n) (hb : n * 8 ≤ 536870912) (hc : cells + 1 ≤ R.cells) (hl : slots + n ≤ R.slots) (eT : T.heap = h) (hd : decode c.code pc = .ok (.anewarray index, 3)) (hq : pc + 3 = q) (kk : ∀ (T' : State) (h' : Heap) (kc : ClassId) (b : Addr), b = h.size → Stand p l e R s m args below meth c T' locs (cells + 1) (slots + n) → T'.heap = h' → Ext h h' → Arv Z h' b kc (.object C) z (List.replicate n .null) .null → Exa Z h' b ad → Ovr Z kc C → Go p.tables e below Q (T'.setTop (mkF m q Ls (.ref b :: st)))) : Go p.tables e below Q (T.setTop (mkF m pc Ls (.int z :: st))) := by
  subst hq
  obtain ⟨T', h', kc, X', e', E', A', Ea, O', st'⟩ := newRE X hx hZ hown w1 w2 eT (g := mkF m pc Ls (.int z :: st)) rfl hd rfl hn (cap := n) (Nat.le_of_eq hk) hb hc hl had
  have V0 : Arv Z h' h.size kc (.object C) z [] Value.null := Arv.new A' hn
  exact Go.to st' (kk T' h' kc _ rfl X' e' E' (V0.pad (fun i => by have := pad_rep [] Value.null n i; simpa using this)) Ea O')
theorem g_gcls (X : Stand p l e R s m args below meth c T locs cells slots) (hx : p.tables.exec = Jvm.exec) (hZ : Z.Warmed39 s.vm) (hown : s.vm.findClass own = some m.cls) (w1 : (Jvm.Cond.methodLink own index ⟨"java/lang/Object", "getClass", "()Ljava/lang/Class;"⟩).before a0 Z = true) (w2 : (Jvm.Cond.declares ⟨"java/lang/Object", "getClass", "()Ljava/lang/Class;"⟩).before a0 Z = true) (w3 : (Jvm.Cond.noSuperclass "java/lang/Object").before a0 Z = true) (w4 : (Jvm.Cond.selects C ⟨"java/lang/Object", "getClass", "()Ljava/lang/Class;"⟩ ⟨"java/lang/Object", "getClass", "()Ljava/lang/Class;"⟩).before a0 Z = true) (w5 : (Jvm.Cond.instanceMethod ⟨"java/lang/Object", "getClass", "()Ljava/lang/Class;"⟩).before a0 Z = true) (w6 : (Jvm.Cond.native ⟨"java/lang/Object", "getClass", "()Ljava/lang/Class;"⟩).before a0 Z = true) (E : Exa Z h a C) {mr : Addr} (M : Mir Z C mr) (hsize : Ls.size = c.maxLocals) (hf : 1 ≤ R.frames) {W : Nat} (hW : (st.map fun v => v.category).sum ≤ W) (hl : W + (nativeFrameWords "java/lang/Object" "getClass" 1 + 11) ≤ R.locals) (eT : T.heap = h) (hd : decode c.code pc = .ok (.invokevirtual index, 3)) (hq : pc + 3 = q) (kk : ∀ (T' : State), Stand p l e R s m args below meth c T' locs cells slots → T'.heap = h → Go p.tables e below Q (T'.setTop (mkF m q Ls (.ref mr :: st)))) : Go p.tables e below Q (T.setTop (mkF m pc Ls (.ref a :: st))) := by
  subst hq
  obtain ⟨T', X', e', st'⟩ := gcls X hx hZ hown w1 w2 w3 w4 w5 w6 eT E M (g := mkF m pc Ls (.ref a :: st)) rfl hsize rfl hd hf (W := W) (by show 2 * 0 + _ ≤ _; omega) hl
  exact Go.to st' (kk T' X' e')
theorem g_ldcM (X : Stand p l e R s m args below meth c T locs cells slots) (hx : p.tables.exec = Jvm.exec) (hZ : Z.Warmed39 s.vm) (hown : s.vm.findClass own = some m.cls) (w1 : (Jvm.Cond.classLink own index C).before a0 Z = true) {mr : Addr} (M : Mir Z C mr) (eT : T.heap = h) (hd : decode c.code pc = .ok (.ldc index, 2)) (hq : pc + 2 = q) (kk : ∀ (T' : State), Stand p l e R s m args below meth c T' locs cells slots → T'.heap = h → Go p.tables e below Q (T'.setTop (mkF m q Ls (.ref mr :: st)))) : Go p.tables e below Q (T.setTop (mkF m pc Ls st)) := by
  subst hq
  have hev : (Term.mirror C).eval args s none [] s = some (.ref mr) := by
    obtain ⟨cc, kc, m1, m2, m3, -⟩ := M
    obtain ⟨k', q1, ek⟩ := hZ.alike.2.2 _ _ m2
    have q2 : s.vm.findClass C = some cc := by rw [hZ.alike.findClass]; exact m1
    have q3 : k'.mirror = some mr := by rw [ek]; exact m3
    simp [Term.eval, q2, q1, q3]
  obtain ⟨vm', X', st'⟩ := X.ldcMirror hx hown (mvT hZ w1) hev (g := mkF m pc Ls st) rfl hd
  exact Go.to st' (kk _ X' eT)
theorem g_cp (X : Stand p l e R s m args below meth c T locs cells slots) (hx : p.tables.exec = Jvm.exec) (hZ : Z.Warmed39 s.vm) (hown : s.vm.findClass own = some m.cls) (w1 : (Jvm.Cond.methodLink own index Jvm.Stand.acN).before a0 Z = true) (w2 : (Jvm.Cond.native Jvm.Stand.acN).before a0 Z = true) (w3 : (Jvm.Cond.static Jvm.Stand.acN).before a0 Z = true) (w4 : (Jvm.Cond.initialized "java/lang/System").before a0 Z = true) {b : Addr} {k' : ClassId} {ty' : FieldType} {z' sp dp nn : Int32} {vd us : List Value} {d2 : Value} (A : Arv Z h a kc ty z vs d) (B : Arv Z h b k' ty' z' vd d2) (hty : (ty = ty' ∧ refKind ty = false) ∨ (refKind ty = true ∧ refKind ty' = true ∧ StoL Z h b us)) (h1 : ¬ sp < 0) (h2 : ¬ dp < 0) (h3 : ¬ nn < 0) (h4 : sp.toNatClampNeg + nn.toNatClampNeg ≤ z.toNatClampNeg) (h5 : dp.toNatClampNeg + nn.toNatClampNeg ≤ z'.toNatClampNeg) (hus : us = (List.range nn.toNatClampNeg).map fun i => vs.getD (sp.toNatClampNeg + i) d) (hl : dp.toNatClampNeg + nn.toNatClampNeg ≤ vd.length) {n0 : Nat} (N : Fr n0 locs) (ge : n0 ≤ b) (hsize : Ls.size = c.maxLocals) (hf : 1 ≤ R.frames) {W : Nat} (hW : (st.map fun v => v.category).sum ≤ W) (hlo : W + (nativeFrameWords "java/lang/System" "arraycopy" 5 + 11) ≤ R.locals) (eT : T.heap = h) (hd : decode c.code pc = .ok (.invokestatic index, 3)) (hq : pc + 3 = q) (kk : ∀ (T' : State) (h' : Heap) (L : List Loc), Stand p l e R s m args below meth c T' L cells slots → T'.heap = h' → Fr n0 L → Keep h h' [b] → Arv Z h' b k' ty' z' (vd.take dp.toNatClampNeg ++ us ++ vd.drop (dp.toNatClampNeg + nn.toNatClampNeg)) d2 → Go p.tables e below Q (T'.setTop (mkF m q Ls st))) : Go p.tables e below Q (T.setTop (mkF m pc Ls (.int nn :: .int dp :: .ref b :: .int sp :: .ref a :: st))) := by
  subst hq
  obtain ⟨T', h', L, X', e', N', K', V', st'⟩ := cpA X hx hZ hown w1 w2 w3 w4 eT A B hty h1 h2 h3 h4 h5 hus hl N ge (g := mkF m pc Ls (.int nn :: .int dp :: .ref b :: .int sp :: .ref a :: st)) rfl hsize rfl hd hf (W := W) (by show 2 * 0 + _ ≤ _; omega) hlo
  exact Go.to st' (kk T' h' L X' e' N' K' V')
theorem g_tsw (X : Stand p l e R s m args below meth c T locs cells slots) (hx : p.tables.exec = Jvm.exec) {dflt low high : Int} {offs : Array Int} {len : Nat} {j : Int} (hd : decode c.code pc = .ok (.tableswitch dflt low high offs, len)) (hin : ¬ (x.toInt < low ∨ x.toInt > high)) (hoff : offs[(x.toInt - low).toNat]? = some j) (ho : 0 ≤ (pc : Int) + j) (hp : ((pc : Int) + j).toNat = q) (kk : Go p.tables e below Q (T.setTop (mkF m q Ls st))) : Go p.tables e below Q (T.setTop (mkF m pc Ls (.int x :: st))) :=
  Go.st (S' := T.setTop (mkF m q Ls st)) (fun {t} hr => XS.tswIn (g := mkF m pc Ls (.int x :: st)) (pc0 := pc) (pc' := q) X.here hx rfl rfl hd rfl hin hoff ho hp hr) kk
theorem g_pv {y : MethodName} {bytes : ByteArray} {maxL : Nat} {ret : Option FieldType} {W nk ns : Nat} {argsL st0 : List Value} {Qc : Option Value → Heap → List Loc → Prop} (X : Stand p l e R s m args below meth c T locs cells slots) (hx : p.tables.exec = Jvm.exec) (hZ : Z.Warmed39 s.vm) (hown : s.vm.findClass own = some m.cls) (w1 : (Jvm.Cond.methodLink own index y).before a0 Z = true) (w2 : (Jvm.Cond.instanceMethod y).before a0 Z = true) (w3 : (Jvm.Cond.selects y.cls y y).before a0 Z = true) (w4 : (Jvm.Cond.privateMethod y).before a0 Z = true) (w5 : (Jvm.Cond.code y bytes maxL ret).before a0 Z = true) (hyc : y.cls ≠ "java/lang/invoke/MethodHandle" ∧ y.cls ≠ "java/lang/invoke/VarHandle") (E : Exa Z h a C) (eT : T.heap = h) (hK : BackQ l R p e below s args y 3 W (.ref a :: argsL).toArray h nk ns Qc) (hsize : Ls.size = c.maxLocals) (hlen : ∀ sig, parseMethodDescriptor y.desc = some sig → argsL.length = sig.parameters.length) (hst : st0 = argsL.reverse ++ .ref a :: st) (hW : (st.map fun v => v.category).sum ≤ W) (hd : decode c.code pc = .ok (.invokevirtual index, 3)) (hq : pc + 3 = q) (hc : cells + nk ≤ R.cells) (hs : slots + ns ≤ R.slots) (kk : ∀ (v : Option Value) (T' : State) (L : List Loc), Stand p l e R s m args below meth c T' (locs ++ L) (cells + nk) (slots + ns) → Qc v T'.heap L → Go p.tables e below Q (T'.setTop (mkF m q Ls (v.toList ++ st)))) : Go p.tables e below Q (T.setTop (mkF m pc Ls st0)) := by
  subst hq
  obtain ⟨cq, q1, q2⟩ := E.cell
  obtain ⟨v, vm1, ⟨T', L', k', n'⟩, -, X', ⟨L, hQ, rfl, rfl, rfl⟩, st'⟩ := X.privateBack hx hown (mvT hZ w1) (mvT hZ w2) (mvT hZ w3) (Cond.privateMethod_at (mvP hZ w4 (args := #[]))) (mvT hZ w5) hyc hK (g := mkF m pc Ls st0) rfl hsize (Steps.refl _) (a := a) (by rw [eT]; exact q1) q2 hlen hst (by show 2 * 0 + _ ≤ _; omega) hd (fun _ _ => ⟨rfl, eT, hc, hs⟩)
  exact Go.run st' (kk v T' L X' hQ)
end Steps1
end Jvm.OwnKit

namespace Jvm.Pilot.@@N@@
open Jvm Jvm.ClassFile Sem Op Lib Jvm.Free Jvm.Stand Jvm.LawKit Jvm.RoadKit Jvm.OwnKit Bundle Jvm.Pilot.@@N@@.Jvm.D
abbrev HW (a0 : Array Value) (Z : State) : Prop := ∀ d ∈ tables_1, d.before a0 Z = true
abbrev tSC (Z : State) (zC : Int32) : Prop := Sta Z Z.heap "java/lang/String" "COMPACT_STRINGS" "Z" (.int zC)
abbrev tSE (Z : State) (aE : Addr) : Prop := Sta Z Z.heap "java/util/ImmutableCollections" "EMPTY_LIST" "Ljava/util/ImmutableCollections$ListN;" (.ref aE)
abbrev tSD (Z : State) (aD : Addr) : Prop := Sta Z Z.heap "java/util/ArrayList" "DEFAULTCAPACITY_EMPTY_ELEMENTDATA" "[Ljava/lang/Object;" (.ref aD)
abbrev tSM (Z : State) (aM : Addr) : Prop := Sta Z Z.heap "java/util/ImmutableCollections" "EMPTY" "Ljava/lang/Object;" (.ref aM)
abbrev tMO (Z : State) (mO : Addr) : Prop := Mir Z "[Ljava/lang/Object;" mO
set_option maxRecDepth 65536
set_option maxHeartbeats 40000000
def chr (x : Int32) : Int32 := (x &&& 255).toUInt32.toUInt16.toUInt32.toInt32
theorem chr_eq (x : Int32) : chr x = x &&& 255 := i2c_mask x
theorem chr_rng (x : Int32) : ¬ chr x < 0 ∧ ¬ (255 : Int32) < chr x := by
  rw [chr_eq]
  have h := c_mask x 255 8 (by decide) (by decide)
  simp only [Int32.lt_iff_toInt_lt]
  have h0 : (0 : Int32).toInt = 0 := by decide
  have h1 : (255 : Int32).toInt = 255 := by decide
  rw [h, h0, h1]
  have : (2 ^ 8 : Nat) = 256 := by decide
  omega
theorem chr_nar (x : Int32) : nar .char (chr x) = chr x := by simp only [nar, chr, UInt32.toUInt32_toInt32, UInt16.toUInt16_toUInt32]
theorem al0 {P : Int32 → Prop} : ∀ c ∈ ([] : List Int32), P c := fun _ q => nomatch q
theorem alS {P : Int32 → Prop} {y : Int32} {L : List Int32} (q : P y) (r : ∀ x ∈ L, P x) : ∀ x ∈ y :: L, P x := fun x z => (List.mem_cons.mp z).elim (fun u => u ▸ q) (r x)
theorem shr_zero (x : Int32) : x >>> ((0 : Int32) &&& 31) = x := by
  rw [show ((0 : Int32) &&& 31) = 0 from by decide]
  exact Int32.toInt_inj.mp (by rw [show x >>> (0 : Int32) = x >>> ((0 : Int32) &&& 31) from by rw [show ((0 : Int32) &&& 31) = 0 from by decide], c_ishr x 0 0 (by decide)]; simp)
theorem lo8_nar (x : Int32) : nar .byte (StrChars.lo8 x) = StrChars.lo8 x := by simp [nar, StrChars.lo8]
abbrev EL : List (String × Nat) := [("java/lang/String", 7)]
theorem wd18 {a0 : Array Value} {Z : State} (hw : HW a0 Z) : ((Jvm.Cond.stringLink "java/lang/String" (7 : Nat) "") : Jvm.Cond).before a0 Z = true := hw _ (List.mem_of_getElem? (i := 18) rfl)
theorem own_EW {a0 : Array Value} {Z : State} (hw : HW a0 Z) : EW Z a0 EL := EW.cons (wd18 hw) (by decide) (EW.nil)
theorem own_wS {a0 : Array Value} {Z : State} (hw : HW a0 Z) : ∀ d ∈ Bundle.stringAtoms, d.before a0 Z = true := fun d hd => hw d ((by decide +kernel : ∀ d ∈ Bundle.stringAtoms, d ∈ tables_1) d hd)
theorem own_wStr {a0 : Array Value} {Z : State} (hw : HW a0 Z) : ∀ d ∈ StrChars.Road.words, d.before a0 Z = true := fun d hd => hw d ((by decide +kernel : ∀ d ∈ StrChars.Road.words, d ∈ tables_1) d hd)
theorem d_jdk_42m149_0 : decode jdk_42_method_149_code 0 = .ok (.aload_n 0, 1) := by decide +kernel
theorem d_jdk_42m149_1 : decode jdk_42_method_149_code 1 = .ok (.invokespecial 1, 3) := by decide +kernel
theorem wd15 {a0 : Array Value} {Z : State} (hw : HW a0 Z) : ((Jvm.Cond.methodLink "java/lang/String" (1 : Nat) ({ cls := "java/lang/Object", name := "<init>", desc := "()V" } : Jvm.MethodName)) : Jvm.Cond).before a0 Z = true := hw _ (List.mem_of_getElem? (i := 15) rfl)
theorem wd16 {a0 : Array Value} {Z : State} (hw : HW a0 Z) : ((Jvm.Cond.instanceMethod ({ cls := "java/lang/Object", name := "<init>", desc := "()V" } : Jvm.MethodName)) : Jvm.Cond).before a0 Z = true := hw _ (List.mem_of_getElem? (i := 16) rfl)
theorem wd17 {a0 : Array Value} {Z : State} (hw : HW a0 Z) : ((Jvm.Cond.code ({ cls := "java/lang/Object", name := "<init>", desc := "()V" } : Jvm.MethodName) object_method_1_code (1 : Nat) (Option.none : Option Jvm.ClassFile.FieldType)) : Jvm.Cond).before a0 Z = true := hw _ (List.mem_of_getElem? (i := 17) rfl)
theorem d_jdk_42m149_4 : decode jdk_42_method_149_code 4 = .ok (.iload_n 3, 1) := by decide +kernel
theorem d_jdk_42m149_5 : decode jdk_42_method_149_code 5 = .ok (.ifCond .ne 22, 3) := by decide +kernel
theorem d_jdk_42m149_8 : decode jdk_42_method_149_code 8 = .ok (.aload_n 0, 1) := by decide +kernel
theorem d_jdk_42m149_9 : decode jdk_42_method_149_code 9 = .ok (.ldc 7, 2) := by decide +kernel
theorem d_jdk_42m149_11 : decode jdk_42_method_149_code 11 = .ok (.getfield 9, 3) := by decide +kernel
theorem wd24 {a0 : Array Value} {Z : State} (hw : HW a0 Z) : ((Jvm.Cond.fieldLink "java/lang/String" (9 : Nat) "java/lang/String" "value" "[B") : Jvm.Cond).before a0 Z = true := hw _ (List.mem_of_getElem? (i := 24) rfl)
theorem d_jdk_42m149_14 : decode jdk_42_method_149_code 14 = .ok (.putfield 9, 3) := by decide +kernel
theorem wd20 {a0 : Array Value} {Z : State} (hw : HW a0 Z) : ((Jvm.Cond.laysFinal "java/lang/String" "java/lang/String" "value" "[B") : Jvm.Cond).before a0 Z = true := hw _ (List.mem_of_getElem? (i := 20) rfl)
theorem wd5 {a0 : Array Value} {Z : State} (hw : HW a0 Z) : ((Jvm.Cond.instantiable "java/lang/String" (4 : Nat)) : Jvm.Cond).before a0 Z = true := hw _ (List.mem_of_getElem? (i := 5) rfl)
theorem d_jdk_42m149_17 : decode jdk_42_method_149_code 17 = .ok (.aload_n 0, 1) := by decide +kernel
theorem d_jdk_42m149_18 : decode jdk_42_method_149_code 18 = .ok (.ldc 7, 2) := by decide +kernel
theorem d_jdk_42m149_20 : decode jdk_42_method_149_code 20 = .ok (.getfield 15, 3) := by decide +kernel
theorem wd25 {a0 : Array Value} {Z : State} (hw : HW a0 Z) : ((Jvm.Cond.fieldLink "java/lang/String" (15 : Nat) "java/lang/String" "coder" "B") : Jvm.Cond).before a0 Z = true := hw _ (List.mem_of_getElem? (i := 25) rfl)
theorem d_jdk_42m149_23 : decode jdk_42_method_149_code 23 = .ok (.putfield 15, 3) := by decide +kernel
theorem wd21 {a0 : Array Value} {Z : State} (hw : HW a0 Z) : ((Jvm.Cond.laysFinal "java/lang/String" "java/lang/String" "coder" "B") : Jvm.Cond).before a0 Z = true := hw _ (List.mem_of_getElem? (i := 21) rfl)
theorem d_jdk_42m149_26 : decode jdk_42_method_149_code 26 = .ok (.return_, 1) := by decide +kernel
def Q_new4e (Z : State) (zC : Int32) (aE : Addr) (aD : Addr) (aM : Addr) (mO : Addr) (a1 : Addr) (a2 : Addr) (h0 : Heap) (v : Option Value) (h : Heap) (L : List Loc) : Prop := ∃ (t : Addr), ∃ (kb : ClassId), v = none ∧ Fr Z.heap.size L ∧ Keep h0 h [a1] ∧ Exa Z h a1 "java/lang/String" ∧ Fld Z h a1 "java/lang/String" "value" "[B" (.ref t) ∧ Fld Z h a1 "java/lang/String" "coder" "B" (.int (0 : Int32)) ∧ Arv Z h t kb .byte (0 : Int32) [] (.int 0)
theorem pn0 : plainName "java/lang/String" = true := by first | (simp [plainName, overriddenIn]; done) | decide +kernel
theorem rm_new4e (l : Launch) (Z : State) (a0 : Array Value) (hw : HW a0 Z) (zC : Int32) (SC : tSC Z zC) (PC : ¬ zC = (0 : Int32)) (aE : Addr) (SE : tSE Z aE) (aD : Addr) (SD : tSD Z aD) (aM : Addr) (SM : tSM Z aM) (mO : Addr) (MO : tMO Z mO) (a1 : Addr) (a2 : Addr) (h0 : Heap) (O0 : Old Z Z.heap.size h0) (P1 : Exa Z h0 a1 "java/lang/String") (P2 : Fld Z h0 a1 "java/lang/String" "value" "[B" .null) (P3 : Fld Z h0 a1 "java/lang/String" "coder" "B" (.int (0 : Int32))) (P4 : Z.heap.size ≤ a1) :
    ConS l Z EL (⟨"java/lang/String", "<init>", "([CIILjava/lang/Void;)V"⟩ : MethodName) jdk_42_method_149_code 6 none ({ frames := 1, cells := 4, slots := 8, locals := 12 } : Room) #[(.ref a1), (.ref a2), (.int (0 : Int32)), (.int (0 : Int32)), .null] h0 [a1] (Q_new4e Z zC aE aD aM mO a1 a2 h0) := by
  refine ConS.intro (plainFor_of_name pn0) ?_
  intro p e s m below meth c T0 v0 X0 hx hby hml hown0 hnm hret hlk hZ0 e0 hS0 C0 hsl0
  have P5 := hsl0 a1 (by simp)
  have N0 := Fr.nil Z.heap.size
  refine castGo (g' := mkF m 0 #[.val (.ref a1), .val (.ref a2), .val (.int (0 : Int32)), .val (.int (0 : Int32)), .val .null, .unset] []) (by first | rfl | (simp [entryFrame, mkF, argsToLocals, Value.category]; done)) ?_
  show Go _ _ _ _ (T0.setTop (mkF m 0 #[.val (.ref a1), .val (.ref a2), .val (.int (0 : Int32)), .val (.int (0 : Int32)), .val .null, .unset] []))
  refine aL X0 hx (hb hby d_jdk_42m149_0) (q := 1) rfl rfl rfl ?_
  refine g_init0 X0 hx hZ0 hown0 (wd15 hw) (wd16 hw) (wd17 hw) (by rw [hml]; rfl) (by decide) (W := 0) (Nat.le_of_eq rfl) (by decide) e0 (hb hby d_jdk_42m149_1) (q := 4) rfl ?_
  intro T1 X1 e1
  refine iL X1 hx (hb hby d_jdk_42m149_4) (q := 5) rfl rfl ?_
  refine ifN X1 hx (hb hby d_jdk_42m149_5) (q := 8) rfl (by decide) ?_
  refine aL X1 hx (hb hby d_jdk_42m149_8) (q := 9) rfl rfl rfl ?_
  refine g_ldc X1 hx hZ0 hown0 (wd18 hw) (own_wS hw) hS0 (Nat.zero_le _) (own_EW hw) (by simp [EL]) C0.1 (vs := []) (z := (0 : Int32)) ⟨by decide, by decide⟩ (by decide) (by decide) (n := 0) (by decide) (by decide) (by decide) (by decide) e1 (hb hby d_jdk_42m149_9) (q := 11) rfl ?_
  intro b2 T2 h2 kk2 d2 k2 X2 e2 E2 hS2 hk2 hZ2 hown2 A2 Fc2 Fv2 V2 lta2 ltb2 R2 sn2
  refine g_getF X2 hx hZ2 hown2 (host := "") (Or.inl (wd24 hw)) Via.refl Fv2 e2 (hb hby d_jdk_42m149_11) (q := 14) rfl ?_
  intro T3 X3 e3
  have f4 : Fld Z h2 a1 "java/lang/String" "value" "[B" .null := P2.ext E2
  have f5 : Exa Z h2 a1 "java/lang/String" := P1.ext E2
  have f7 : CHr Z EL s.vm s.heap T2.vm h2 := C0.trans R2
  have f8 : Safe Z EL T2.vm h2 a1 := R2.safe (Nat.lt_of_lt_of_le P1.lt (Nat.le_refl _)) P5
  refine g_putF X3 hx hZ2 hown2 (host := "") (Or.inl (wd24 hw)) Via.refl f4 f5 (Or.inr ⟨(wd20 hw), rfl, hnm⟩) (wd5 hw) (ty := (.array .byte)) (by decide) rfl rfl e3 (hb hby d_jdk_42m149_14) (q := 17) rfl ?_
  intro T6 h6 X6 e6 W6
  have N6 := Fr.snoc X6 N0 P4
  have Fw6 : Fld Z h6 a1 "java/lang/String" "value" "[B" (.ref d2) := f4.same W6
  refine aL X6 hx (hb hby d_jdk_42m149_17) (q := 18) rfl rfl rfl ?_
  have f10 : CHr Z EL s.vm s.heap T2.vm h6 := f7.trans (CHr.wr W6 f8 f7.1)
  have le11 : (h2).size ≤ (h6).size := (Nat.le_of_eq (Wr.size W6).symm)
  refine g_ldc X6 hx hZ2 hown2 (wd18 hw) (own_wS hw) hS2 (Nat.le_trans hk2 le11) (own_EW hw) (by simp [EL]) f10.1 (vs := []) (z := (0 : Int32)) ⟨by decide, by decide⟩ (by decide) (by decide) (n := 0) (by decide) (by decide) (by decide) (by decide) e6 (hb hby d_jdk_42m149_18) (q := 20) rfl ?_
  intro b9 T9 h9 kk9 d9 k9 X9 e9 E9 hS9 hk9 hZ9 hown9 A9 Fc9 Fv9 V9 lta9 ltb9 R9 sn9
  refine g_getF X9 hx hZ9 hown9 (host := "") (Or.inl (wd25 hw)) Via.refl Fc9 e9 (hb hby d_jdk_42m149_20) (q := 23) rfl ?_
  intro T12 X12 e12
  have f13 : Fld Z h2 a1 "java/lang/String" "coder" "B" (.int (0 : Int32)) := P3.ext E2
  have f14 : Fld Z h6 a1 "java/lang/String" "coder" "B" (.int (0 : Int32)) := f13.other W6 (Or.inr (slot_ne (Or.inr (wd21 hw)) (Or.inr (wd20 hw)) (by decide) (t := .byte) (t' := (.array .byte)) (by decide) (by decide)))
  have f15 : Fld Z h9 a1 "java/lang/String" "coder" "B" (.int (0 : Int32)) := f14.ext E9
  have f16 : Exa Z h6 a1 "java/lang/String" := f5.wr W6
  have f17 : Exa Z h9 a1 "java/lang/String" := f16.ext E9
  have f19 : CHr Z EL s.vm s.heap T9.vm h9 := f10.trans R9
  have f20 : Safe Z EL T2.vm h6 a1 := Safe.wr W6 f8 f7.1 f8
  have le21 : (h0).size ≤ (h2).size := E2.1
  have le22 : (h0).size ≤ (h6).size := (Nat.le_trans le21 (Nat.le_of_eq (Wr.size W6).symm))
  have f23 : Safe Z EL T9.vm h9 a1 := R9.safe (Nat.lt_of_lt_of_le P1.lt le22) f20
  refine g_putF X12 hx hZ9 hown9 (host := "") (Or.inl (wd25 hw)) Via.refl f15 f17 (Or.inr ⟨(wd21 hw), rfl, hnm⟩) (wd5 hw) (ty := .byte) (by decide) rfl rfl e12 (hb hby d_jdk_42m149_23) (q := 26) rfl ?_
  intro T18 h18 X18 e18 W18
  have N18 := Fr.snoc X18 N6 P4
  have Fw18 : Fld Z h18 a1 "java/lang/String" "coder" "B" (.int (0 : Int32)) := f15.same W18
  have K24 : Keep h0 h2 [a1] := (Keep.refl h0 [a1]).ext E2
  have K25 : Keep h0 h6 [a1] := K24.wr W6 (Or.inl (by simp))
  have K26 : Keep h0 h9 [a1] := K25.ext E9
  have K27 : Keep h0 h18 [a1] := K26.wr W18 (Or.inl (by simp))
  have f28 : Exa Z h18 a1 "java/lang/String" := f17.wr W18
  have f29 : Fld Z h9 a1 "java/lang/String" "value" "[B" (.ref d2) := Fw6.ext E9
  have f30 : Fld Z h18 a1 "java/lang/String" "value" "[B" (.ref d2) := f29.other W18 (Or.inr (slot_ne (Or.inr (wd20 hw)) (Or.inr (wd21 hw)) (by decide) (t := (.array .byte)) (t' := .byte) (by decide) (by decide)))
  have ne31 : d2 ≠ a1 := (Ne.symm (sn2 _ f8).2)
  have f32 : Arv Z h6 d2 k2 .byte (0 : Int32) [] (.int 0) := V2.other W6 ne31
  have f33 : Arv Z h9 d2 k2 .byte (0 : Int32) [] (.int 0) := f32.ext E9
  have f34 : Arv Z h18 d2 k2 .byte (0 : Int32) [] (.int 0) := f33.other W18 ne31
  have le35 : (h9).size ≤ (h18).size := (Nat.le_of_eq (Wr.size W18).symm)
  have f36 : CHr Z EL s.vm s.heap T9.vm h18 := f19.trans (CHr.wr W18 f23 f19.1)
  refine endC X18 hlk hS9 (by rw [e18]; exact (Nat.le_trans hk9 le35)) hZ9 (own_EW hw) (by rw [e18]; exact f36) (fun _ => rfl) (lastV X18 hx hret (hb hby d_jdk_42m149_26)) ?_ (by decide) (by decide)
  rw [e18]
  exact ⟨d2, k2, rfl, N18, K27, f28, f30, Fw18, f34⟩
theorem d_jdk_42m3_0 : decode jdk_42_method_3_code 0 = .ok (.aload_n 0, 1) := by decide +kernel
theorem d_jdk_42m3_1 : decode jdk_42_method_3_code 1 = .ok (.aload_n 1, 1) := by decide +kernel
theorem d_jdk_42m3_2 : decode jdk_42_method_3_code 2 = .ok (.iconst 0, 1) := by decide +kernel
theorem d_jdk_42m3_3 : decode jdk_42_method_3_code 3 = .ok (.aload_n 1, 1) := by decide +kernel
theorem d_jdk_42m3_4 : decode jdk_42_method_3_code 4 = .ok (.arraylength, 1) := by decide +kernel
theorem d_jdk_42m3_5 : decode jdk_42_method_3_code 5 = .ok (.aconst_null, 1) := by decide +kernel
theorem d_jdk_42m3_6 : decode jdk_42_method_3_code 6 = .ok (.invokespecial 27, 3) := by decide +kernel
theorem wd14 {a0 : Array Value} {Z : State} (hw : HW a0 Z) : ((Jvm.Cond.code ({ cls := "java/lang/String", name := "<init>", desc := "([CIILjava/lang/Void;)V" } : Jvm.MethodName) jdk_42_method_149_code (6 : Nat) (Option.none : Option Jvm.ClassFile.FieldType)) : Jvm.Cond).before a0 Z = true := hw _ (List.mem_of_getElem? (i := 14) rfl)
theorem wd6 {a0 : Array Value} {Z : State} (hw : HW a0 Z) : ((Jvm.Cond.initialized "java/lang/String") : Jvm.Cond).before a0 Z = true := hw _ (List.mem_of_getElem? (i := 6) rfl)
theorem pd0 : parseMethodDescriptor "([CIILjava/lang/Void;)V" = some ⟨[(.array .char), .int, .int, (.object "java/lang/Void")], none⟩ := by decide +kernel
theorem wd11 {a0 : Array Value} {Z : State} (hw : HW a0 Z) : ((Jvm.Cond.methodLink "java/lang/String" (27 : Nat) ({ cls := "java/lang/String", name := "<init>", desc := "([CIILjava/lang/Void;)V" } : Jvm.MethodName)) : Jvm.Cond).before a0 Z = true := hw _ (List.mem_of_getElem? (i := 11) rfl)
theorem wd12 {a0 : Array Value} {Z : State} (hw : HW a0 Z) : ((Jvm.Cond.instanceMethod ({ cls := "java/lang/String", name := "<init>", desc := "([CIILjava/lang/Void;)V" } : Jvm.MethodName)) : Jvm.Cond).before a0 Z = true := hw _ (List.mem_of_getElem? (i := 12) rfl)
theorem d_jdk_42m3_9 : decode jdk_42_method_3_code 9 = .ok (.return_, 1) := by decide +kernel
def Q_new1e (Z : State) (zC : Int32) (aE : Addr) (aD : Addr) (aM : Addr) (mO : Addr) (a1 : Addr) (a2 : Addr) (kc : ClassId) (cl : List Value) (h0 : Heap) (v : Option Value) (h : Heap) (L : List Loc) : Prop := ∃ (t : Addr), ∃ (kb : ClassId), v = none ∧ Fr Z.heap.size L ∧ Keep h0 h [a1] ∧ Exa Z h a1 "java/lang/String" ∧ Fld Z h a1 "java/lang/String" "value" "[B" (.ref t) ∧ Fld Z h a1 "java/lang/String" "coder" "B" (.int (0 : Int32)) ∧ Arv Z h t kb .byte (0 : Int32) [] (.int 0)
theorem rm_new1e (l : Launch) (Z : State) (a0 : Array Value) (hw : HW a0 Z) (zC : Int32) (SC : tSC Z zC) (PC : ¬ zC = (0 : Int32)) (aE : Addr) (SE : tSE Z aE) (aD : Addr) (SD : tSD Z aD) (aM : Addr) (SM : tSM Z aM) (mO : Addr) (MO : tMO Z mO) (a1 : Addr) (a2 : Addr) (kc : ClassId) (cl : List Value) (h0 : Heap) (O0 : Old Z Z.heap.size h0) (P1 : Exa Z h0 a1 "java/lang/String") (P2 : Fld Z h0 a1 "java/lang/String" "value" "[B" .null) (P3 : Fld Z h0 a1 "java/lang/String" "coder" "B" (.int (0 : Int32))) (P4 : Z.heap.size ≤ a1) (P6 : Arv Z h0 a2 kc .char (0 : Int32) cl (.int 0)) :
    ConS l Z EL (⟨"java/lang/String", "<init>", "([C)V"⟩ : MethodName) jdk_42_method_3_code 2 none ({ frames := 2, cells := 4, slots := 8, locals := 29 } : Room) #[(.ref a1), (.ref a2)] h0 [a1] (Q_new1e Z zC aE aD aM mO a1 a2 kc cl h0) := by
  refine ConS.intro (plainFor_of_name pn0) ?_
  intro p e s m below meth c T0 v0 X0 hx hby hml hown0 hnm hret hlk hZ0 e0 hS0 C0 hsl0
  have P5 := hsl0 a1 (by simp)
  have N0 := Fr.nil Z.heap.size
  refine castGo (g' := mkF m 0 #[.val (.ref a1), .val (.ref a2)] []) (by first | rfl | (simp [entryFrame, mkF, argsToLocals, Value.category]; done)) ?_
  show Go _ _ _ _ (T0.setTop (mkF m 0 #[.val (.ref a1), .val (.ref a2)] []))
  refine aL X0 hx (hb hby d_jdk_42m3_0) (q := 1) rfl rfl rfl ?_
  refine aL X0 hx (hb hby d_jdk_42m3_1) (q := 2) rfl rfl rfl ?_
  refine cI X0 hx (hb hby d_jdk_42m3_2) (q := 3) rfl (z := (0 : Int32)) rfl ?_
  refine aL X0 hx (hb hby d_jdk_42m3_3) (q := 4) rfl rfl rfl ?_
  refine g_len X0 hx hZ0 P6 e0 (hb hby d_jdk_42m3_4) (q := 5) rfl ?_
  refine cN X0 hx (hb hby d_jdk_42m3_5) (q := 6) rfl ?_
  refine g_spS X0 hx hZ0 hown0 hS0 (Nat.zero_le _) (wd11 hw) (wd12 hw) (wd14 hw) rfl (by decide) e0 (ConS.back (W := 0) (rm_new4e l Z a0 hw zC SC PC aE SE aD SD aM SM mO MO a1 a2 h0 O0 P1 P2 P3 P4) hZ0 (wd14 hw) (wd6 hw) (by decide) (by decide) (own_EW hw) C0.1 (sfS P5 sf0) (allS (Nat.lt_of_lt_of_le P1.lt (Nat.le_refl _)) all0)) (by rw [hml]; rfl) (lenOf pd0 rfl) rfl (Nat.le_of_eq rfl) (hb hby d_jdk_42m3_6) (q := 9) rfl (by decide) (by decide) ?_
  rintro v37 T37 L37 ⟨X37, hS37, hZ37, hown37, R37⟩ Q37
  obtain ⟨t_37, kb_37, rfl, Nq37, K37q, q37_0, q37_1, q37_2, q37_3⟩ := Q37
  have N37 := Fr.app N0 Nq37
  show Go _ _ _ _ (T37.setTop (mkF m 9 #[.val (.ref a1), .val (.ref a2)] []))
  have K38 : Keep h0 T37.heap [a1] := (Keep.refl h0 [a1]).trans K37q (allS (Or.inl (by simp)) all0)
  have f39 : CHr Z EL s.vm s.heap T37.vm T37.heap := C0.trans R37
  refine endC X37 hlk hS37 (Nat.le_trans (Nat.le_refl _) (Nat.le_refl _)) hZ37 (own_EW hw) f39 (fun _ => rfl) (lastV X37 hx hret (hb hby d_jdk_42m3_9)) ?_ (by decide) (by decide)
  exact ⟨t_37, kb_37, rfl, N37, K38, q37_0, q37_1, q37_2, q37_3⟩
theorem d_jdk_30m1_0 : decode jdk_30_method_1_code 0 = .ok (.aload_n 0, 1) := by decide +kernel
theorem d_jdk_30m1_1 : decode jdk_30_method_1_code 1 = .ok (.invokespecial 1, 3) := by decide +kernel
theorem wd37 {a0 : Array Value} {Z : State} (hw : HW a0 Z) : ((Jvm.Cond.methodLink "java/lang/Record" (1 : Nat) ({ cls := "java/lang/Object", name := "<init>", desc := "()V" } : Jvm.MethodName)) : Jvm.Cond).before a0 Z = true := hw _ (List.mem_of_getElem? (i := 37) rfl)
theorem d_jdk_30m1_4 : decode jdk_30_method_1_code 4 = .ok (.return_, 1) := by decide +kernel
def Q_recinit (Z : State) (zC : Int32) (aE : Addr) (aD : Addr) (aM : Addr) (mO : Addr) (a1 : Addr) (h0 : Heap) (v : Option Value) (h : Heap) (L : List Loc) : Prop := v = none ∧ Fr Z.heap.size L ∧ h = h0
theorem pn1 : plainName "java/lang/Record" = true := by first | (simp [plainName, overriddenIn]; done) | decide +kernel
theorem rm_recinit (l : Launch) (Z : State) (a0 : Array Value) (hw : HW a0 Z) (zC : Int32) (SC : tSC Z zC) (PC : ¬ zC = (0 : Int32)) (aE : Addr) (SE : tSE Z aE) (aD : Addr) (SD : tSD Z aD) (aM : Addr) (SM : tSM Z aM) (mO : Addr) (MO : tMO Z mO) (a1 : Addr) (h0 : Heap) (O0 : Old Z Z.heap.size h0)  :
    Con l Z (⟨"java/lang/Record", "<init>", "()V"⟩ : MethodName) jdk_30_method_1_code 1 none ({ frames := 1, cells := 0, slots := 0, locals := 12 } : Room) #[(.ref a1)] h0 (Q_recinit Z zC aE aD aM mO a1 h0) := by
  refine Con.intro (plainFor_of_name pn1) ?_
  intro p e s m below meth c T0 X0 hx hby hml hown0 hnm hret hlk hZ0 e0
  have N0 := Fr.nil Z.heap.size
  refine castGo (g' := mkF m 0 #[.val (.ref a1)] []) (by first | rfl | (simp [entryFrame, mkF, argsToLocals, Value.category]; done)) ?_
  show Go _ _ _ _ (T0.setTop (mkF m 0 #[.val (.ref a1)] []))
  refine aL X0 hx (hb hby d_jdk_30m1_0) (q := 1) rfl rfl rfl ?_
  refine g_init0 X0 hx hZ0 hown0 (wd37 hw) (wd16 hw) (wd17 hw) (by rw [hml]; rfl) (by decide) (W := 0) (Nat.le_of_eq rfl) (by decide) e0 (hb hby d_jdk_30m1_1) (q := 4) rfl ?_
  intro T40 X40 e40
  refine endP X40 hlk (fun _ => rfl) (lastV X40 hx hret (hb hby d_jdk_30m1_4)) ?_ (by decide) (by decide)
  rw [e40]
  exact ⟨rfl, N0, rfl⟩
theorem d_jdk_22m1_0 : decode jdk_22_method_1_code 0 = .ok (.aload_n 0, 1) := by decide +kernel
theorem d_jdk_22m1_1 : decode jdk_22_method_1_code 1 = .ok (.invokespecial 1, 3) := by decide +kernel
theorem wd62 {a0 : Array Value} {Z : State} (hw : HW a0 Z) : ((Jvm.Cond.methodLink "java/util/AbstractCollection" (1 : Nat) ({ cls := "java/lang/Object", name := "<init>", desc := "()V" } : Jvm.MethodName)) : Jvm.Cond).before a0 Z = true := hw _ (List.mem_of_getElem? (i := 62) rfl)
theorem d_jdk_22m1_4 : decode jdk_22_method_1_code 4 = .ok (.return_, 1) := by decide +kernel
def Q_abcinit (Z : State) (zC : Int32) (aE : Addr) (aD : Addr) (aM : Addr) (mO : Addr) (a1 : Addr) (h0 : Heap) (v : Option Value) (h : Heap) (L : List Loc) : Prop := v = none ∧ Fr Z.heap.size L ∧ h = h0
theorem pn2 : plainName "java/util/AbstractCollection" = true := by first | (simp [plainName, overriddenIn]; done) | decide +kernel
theorem rm_abcinit (l : Launch) (Z : State) (a0 : Array Value) (hw : HW a0 Z) (zC : Int32) (SC : tSC Z zC) (PC : ¬ zC = (0 : Int32)) (aE : Addr) (SE : tSE Z aE) (aD : Addr) (SD : tSD Z aD) (aM : Addr) (SM : tSM Z aM) (mO : Addr) (MO : tMO Z mO) (a1 : Addr) (h0 : Heap) (O0 : Old Z Z.heap.size h0)  :
    Con l Z (⟨"java/util/AbstractCollection", "<init>", "()V"⟩ : MethodName) jdk_22_method_1_code 1 none ({ frames := 1, cells := 0, slots := 0, locals := 12 } : Room) #[(.ref a1)] h0 (Q_abcinit Z zC aE aD aM mO a1 h0) := by
  refine Con.intro (plainFor_of_name pn2) ?_
  intro p e s m below meth c T0 X0 hx hby hml hown0 hnm hret hlk hZ0 e0
  have N0 := Fr.nil Z.heap.size
  refine castGo (g' := mkF m 0 #[.val (.ref a1)] []) (by first | rfl | (simp [entryFrame, mkF, argsToLocals, Value.category]; done)) ?_
  show Go _ _ _ _ (T0.setTop (mkF m 0 #[.val (.ref a1)] []))
  refine aL X0 hx (hb hby d_jdk_22m1_0) (q := 1) rfl rfl rfl ?_
  refine g_init0 X0 hx hZ0 hown0 (wd62 hw) (wd16 hw) (wd17 hw) (by rw [hml]; rfl) (by decide) (W := 0) (Nat.le_of_eq rfl) (by decide) e0 (hb hby d_jdk_22m1_1) (q := 4) rfl ?_
  intro T41 X41 e41
  refine endP X41 hlk (fun _ => rfl) (lastV X41 hx hret (hb hby d_jdk_22m1_4)) ?_ (by decide) (by decide)
  rw [e41]
  exact ⟨rfl, N0, rfl⟩
theorem d_jdk_39m1_0 : decode jdk_39_method_1_code 0 = .ok (.aload_n 0, 1) := by decide +kernel
theorem d_jdk_39m1_1 : decode jdk_39_method_1_code 1 = .ok (.invokespecial 1, 3) := by decide +kernel
theorem wd61 {a0 : Array Value} {Z : State} (hw : HW a0 Z) : ((Jvm.Cond.code ({ cls := "java/util/AbstractCollection", name := "<init>", desc := "()V" } : Jvm.MethodName) jdk_22_method_1_code (1 : Nat) (Option.none : Option Jvm.ClassFile.FieldType)) : Jvm.Cond).before a0 Z = true := hw _ (List.mem_of_getElem? (i := 61) rfl)
theorem wd60 {a0 : Array Value} {Z : State} (hw : HW a0 Z) : ((Jvm.Cond.initialized "java/util/AbstractCollection") : Jvm.Cond).before a0 Z = true := hw _ (List.mem_of_getElem? (i := 60) rfl)
theorem pd1 : parseMethodDescriptor "()V" = some ⟨[], none⟩ := by decide +kernel
theorem wd56 {a0 : Array Value} {Z : State} (hw : HW a0 Z) : ((Jvm.Cond.methodLink "java/util/AbstractList" (1 : Nat) ({ cls := "java/util/AbstractCollection", name := "<init>", desc := "()V" } : Jvm.MethodName)) : Jvm.Cond).before a0 Z = true := hw _ (List.mem_of_getElem? (i := 56) rfl)
theorem wd57 {a0 : Array Value} {Z : State} (hw : HW a0 Z) : ((Jvm.Cond.instanceMethod ({ cls := "java/util/AbstractCollection", name := "<init>", desc := "()V" } : Jvm.MethodName)) : Jvm.Cond).before a0 Z = true := hw _ (List.mem_of_getElem? (i := 57) rfl)
theorem d_jdk_39m1_4 : decode jdk_39_method_1_code 4 = .ok (.aload_n 0, 1) := by decide +kernel
theorem d_jdk_39m1_5 : decode jdk_39_method_1_code 5 = .ok (.iconst 0, 1) := by decide +kernel
theorem d_jdk_39m1_6 : decode jdk_39_method_1_code 6 = .ok (.putfield 7, 3) := by decide +kernel
theorem wd63 {a0 : Array Value} {Z : State} (hw : HW a0 Z) : ((Jvm.Cond.fieldLink "java/util/AbstractList" (7 : Nat) "java/util/AbstractList" "modCount" "I") : Jvm.Cond).before a0 Z = true := hw _ (List.mem_of_getElem? (i := 63) rfl)
theorem wd64 {a0 : Array Value} {Z : State} (hw : HW a0 Z) : ((Jvm.Cond.lays "java/util/ArrayList" "java/util/AbstractList" "modCount" "I") : Jvm.Cond).before a0 Z = true := hw _ (List.mem_of_getElem? (i := 64) rfl)
theorem wd45 {a0 : Array Value} {Z : State} (hw : HW a0 Z) : ((Jvm.Cond.instantiable "java/util/ArrayList" (3 : Nat)) : Jvm.Cond).before a0 Z = true := hw _ (List.mem_of_getElem? (i := 45) rfl)
theorem d_jdk_39m1_9 : decode jdk_39_method_1_code 9 = .ok (.return_, 1) := by decide +kernel
def Q_ablinit (Z : State) (zC : Int32) (aE : Addr) (aD : Addr) (aM : Addr) (mO : Addr) (a1 : Addr) (h0 : Heap) (v : Option Value) (h : Heap) (L : List Loc) : Prop := v = none ∧ Fr Z.heap.size L ∧ Keep h0 h [a1] ∧ Exa Z h a1 "java/util/ArrayList" ∧ Fld Z h a1 "java/util/AbstractList" "modCount" "I" (.int (0 : Int32))
theorem pn3 : plainName "java/util/AbstractList" = true := by first | (simp [plainName, overriddenIn]; done) | decide +kernel
theorem rm_ablinit (l : Launch) (Z : State) (a0 : Array Value) (hw : HW a0 Z) (zC : Int32) (SC : tSC Z zC) (PC : ¬ zC = (0 : Int32)) (aE : Addr) (SE : tSE Z aE) (aD : Addr) (SD : tSD Z aD) (aM : Addr) (SM : tSM Z aM) (mO : Addr) (MO : tMO Z mO) (a1 : Addr) (h0 : Heap) (O0 : Old Z Z.heap.size h0) (P1 : Exa Z h0 a1 "java/util/ArrayList") (P2 : Fld Z h0 a1 "java/util/AbstractList" "modCount" "I" (.int (0 : Int32))) (P3 : Z.heap.size ≤ a1) :
    Con l Z (⟨"java/util/AbstractList", "<init>", "()V"⟩ : MethodName) jdk_39_method_1_code 1 none ({ frames := 2, cells := 0, slots := 0, locals := 24 } : Room) #[(.ref a1)] h0 (Q_ablinit Z zC aE aD aM mO a1 h0) := by
  refine Con.intro (plainFor_of_name pn3) ?_
  intro p e s m below meth c T0 X0 hx hby hml hown0 hnm hret hlk hZ0 e0
  have N0 := Fr.nil Z.heap.size
  refine castGo (g' := mkF m 0 #[.val (.ref a1)] []) (by first | rfl | (simp [entryFrame, mkF, argsToLocals, Value.category]; done)) ?_
  show Go _ _ _ _ (T0.setTop (mkF m 0 #[.val (.ref a1)] []))
  refine aL X0 hx (hb hby d_jdk_39m1_0) (q := 1) rfl rfl rfl ?_
  refine g_sp X0 hx hZ0 hown0 (wd56 hw) (wd57 hw) (wd61 hw) rfl (by decide) e0 (Con.back (W := 0) (rm_abcinit l Z a0 hw zC SC PC aE SE aD SD aM SM mO MO a1 h0 O0 ) hZ0 (wd61 hw) (wd60 hw) (by decide) (by decide)) (by rw [hml]; rfl) (lenOf pd1 rfl) rfl (Nat.le_of_eq rfl) (hb hby d_jdk_39m1_1) (q := 4) rfl (by decide) (by decide) ?_
  intro v42 T42 L42 X42 Q42
  obtain ⟨rfl, Nq42, e42⟩ := Q42
  have N42 := Fr.app N0 Nq42
  show Go _ _ _ _ (T42.setTop (mkF m 4 #[.val (.ref a1)] []))
  refine aL X42 hx (hb hby d_jdk_39m1_4) (q := 5) rfl rfl rfl ?_
  refine cI X42 hx (hb hby d_jdk_39m1_5) (q := 6) rfl (z := (0 : Int32)) rfl ?_
  refine g_putF X42 hx hZ0 hown0 (host := "") (Or.inl (wd63 hw)) Via.refl P2 P1 (Or.inl (wd64 hw)) (wd45 hw) (ty := .int) (by decide) rfl rfl e42 (hb hby d_jdk_39m1_6) (q := 9) rfl ?_
  intro T43 h43 X43 e43 W43
  have N43 := Fr.snoc X43 N42 P3
  have Fw43 : Fld Z h43 a1 "java/util/AbstractList" "modCount" "I" (.int (0 : Int32)) := P2.same W43
  have K44 : Keep h0 h43 [a1] := (Keep.refl h0 [a1]).wr W43 (Or.inl (by simp))
  have f45 : Exa Z h43 a1 "java/util/ArrayList" := P1.wr W43
  refine endP X43 hlk (fun _ => rfl) (lastV X43 hx hret (hb hby d_jdk_39m1_9)) ?_ (by decide) (by decide)
  rw [e43]
  exact ⟨rfl, N43, K44, f45, Fw43⟩
theorem wd99 {a0 : Array Value} {Z : State} (hw : HW a0 Z) : ((Jvm.Cond.lays "java/util/ArrayList" "java/util/ArrayList" "size" "I") : Jvm.Cond).before a0 Z = true := hw _ (List.mem_of_getElem? (i := 99) rfl)
theorem wd67 {a0 : Array Value} {Z : State} (hw : HW a0 Z) : ((Jvm.Cond.lays "java/util/ArrayList" "java/util/ArrayList" "elementData" "[Ljava/lang/Object;") : Jvm.Cond).before a0 Z = true := hw _ (List.mem_of_getElem? (i := 67) rfl)
def Q_ablinit2 (Z : State) (zC : Int32) (aE : Addr) (aD : Addr) (aM : Addr) (mO : Addr) (a1 : Addr) (h0 : Heap) (v : Option Value) (h : Heap) (L : List Loc) : Prop := v = none ∧ Fr Z.heap.size L ∧ Keep h0 h [a1] ∧ Exa Z h a1 "java/util/ArrayList" ∧ Fld Z h a1 "java/util/AbstractList" "modCount" "I" (.int (0 : Int32)) ∧ Fld Z h a1 "java/util/ArrayList" "size" "I" (.int (0 : Int32)) ∧ Fld Z h a1 "java/util/ArrayList" "elementData" "[Ljava/lang/Object;" .null
theorem rm_ablinit2 (l : Launch) (Z : State) (a0 : Array Value) (hw : HW a0 Z) (zC : Int32) (SC : tSC Z zC) (PC : ¬ zC = (0 : Int32)) (aE : Addr) (SE : tSE Z aE) (aD : Addr) (SD : tSD Z aD) (aM : Addr) (SM : tSM Z aM) (mO : Addr) (MO : tMO Z mO) (a1 : Addr) (h0 : Heap) (O0 : Old Z Z.heap.size h0) (P1 : Exa Z h0 a1 "java/util/ArrayList") (P2 : Fld Z h0 a1 "java/util/AbstractList" "modCount" "I" (.int (0 : Int32))) (P3 : Z.heap.size ≤ a1) (P4 : Fld Z h0 a1 "java/util/ArrayList" "size" "I" (.int (0 : Int32))) (P5 : Fld Z h0 a1 "java/util/ArrayList" "elementData" "[Ljava/lang/Object;" .null) :
    Con l Z (⟨"java/util/AbstractList", "<init>", "()V"⟩ : MethodName) jdk_39_method_1_code 1 none ({ frames := 2, cells := 0, slots := 0, locals := 24 } : Room) #[(.ref a1)] h0 (Q_ablinit2 Z zC aE aD aM mO a1 h0) := by
  refine Con.intro (plainFor_of_name pn3) ?_
  intro p e s m below meth c T0 X0 hx hby hml hown0 hnm hret hlk hZ0 e0
  have N0 := Fr.nil Z.heap.size
  refine castGo (g' := mkF m 0 #[.val (.ref a1)] []) (by first | rfl | (simp [entryFrame, mkF, argsToLocals, Value.category]; done)) ?_
  show Go _ _ _ _ (T0.setTop (mkF m 0 #[.val (.ref a1)] []))
  refine aL X0 hx (hb hby d_jdk_39m1_0) (q := 1) rfl rfl rfl ?_
  refine g_sp X0 hx hZ0 hown0 (wd56 hw) (wd57 hw) (wd61 hw) rfl (by decide) e0 (Con.back (W := 0) (rm_abcinit l Z a0 hw zC SC PC aE SE aD SD aM SM mO MO a1 h0 O0 ) hZ0 (wd61 hw) (wd60 hw) (by decide) (by decide)) (by rw [hml]; rfl) (lenOf pd1 rfl) rfl (Nat.le_of_eq rfl) (hb hby d_jdk_39m1_1) (q := 4) rfl (by decide) (by decide) ?_
  intro v46 T46 L46 X46 Q46
  obtain ⟨rfl, Nq46, e46⟩ := Q46
  have N46 := Fr.app N0 Nq46
  show Go _ _ _ _ (T46.setTop (mkF m 4 #[.val (.ref a1)] []))
  refine aL X46 hx (hb hby d_jdk_39m1_4) (q := 5) rfl rfl rfl ?_
  refine cI X46 hx (hb hby d_jdk_39m1_5) (q := 6) rfl (z := (0 : Int32)) rfl ?_
  refine g_putF X46 hx hZ0 hown0 (host := "") (Or.inl (wd63 hw)) Via.refl P2 P1 (Or.inl (wd64 hw)) (wd45 hw) (ty := .int) (by decide) rfl rfl e46 (hb hby d_jdk_39m1_6) (q := 9) rfl ?_
  intro T47 h47 X47 e47 W47
  have N47 := Fr.snoc X47 N46 P3
  have Fw47 : Fld Z h47 a1 "java/util/AbstractList" "modCount" "I" (.int (0 : Int32)) := P2.same W47
  have K48 : Keep h0 h47 [a1] := (Keep.refl h0 [a1]).wr W47 (Or.inl (by simp))
  have f49 : Exa Z h47 a1 "java/util/ArrayList" := P1.wr W47
  have f50 : Fld Z h47 a1 "java/util/ArrayList" "size" "I" (.int (0 : Int32)) := P4.other W47 (Or.inr (slot_ne (Or.inl (wd99 hw)) (Or.inl (wd64 hw)) (by decide) (t := .int) (t' := .int) (by decide) (by decide)))
  have f51 : Fld Z h47 a1 "java/util/ArrayList" "elementData" "[Ljava/lang/Object;" .null := P5.other W47 (Or.inr (slot_ne (Or.inl (wd67 hw)) (Or.inl (wd64 hw)) (by decide) (t := (.array (.object "java/lang/Object"))) (t' := .int) (by decide) (by decide)))
  refine endP X47 hlk (fun _ => rfl) (lastV X47 hx hret (hb hby d_jdk_39m1_9)) ?_ (by decide) (by decide)
  rw [e47]
  exact ⟨rfl, N47, K48, f49, Fw47, f50, f51⟩
theorem d_jdk_38m2_0 : decode jdk_38_method_2_code 0 = .ok (.aload_n 0, 1) := by decide +kernel
theorem d_jdk_38m2_1 : decode jdk_38_method_2_code 1 = .ok (.invokespecial 1, 3) := by decide +kernel
theorem wd55 {a0 : Array Value} {Z : State} (hw : HW a0 Z) : ((Jvm.Cond.code ({ cls := "java/util/AbstractList", name := "<init>", desc := "()V" } : Jvm.MethodName) jdk_39_method_1_code (1 : Nat) (Option.none : Option Jvm.ClassFile.FieldType)) : Jvm.Cond).before a0 Z = true := hw _ (List.mem_of_getElem? (i := 55) rfl)
theorem wd54 {a0 : Array Value} {Z : State} (hw : HW a0 Z) : ((Jvm.Cond.initialized "java/util/AbstractList") : Jvm.Cond).before a0 Z = true := hw _ (List.mem_of_getElem? (i := 54) rfl)
theorem wd50 {a0 : Array Value} {Z : State} (hw : HW a0 Z) : ((Jvm.Cond.methodLink "java/util/ArrayList" (1 : Nat) ({ cls := "java/util/AbstractList", name := "<init>", desc := "()V" } : Jvm.MethodName)) : Jvm.Cond).before a0 Z = true := hw _ (List.mem_of_getElem? (i := 50) rfl)
theorem wd51 {a0 : Array Value} {Z : State} (hw : HW a0 Z) : ((Jvm.Cond.instanceMethod ({ cls := "java/util/AbstractList", name := "<init>", desc := "()V" } : Jvm.MethodName)) : Jvm.Cond).before a0 Z = true := hw _ (List.mem_of_getElem? (i := 51) rfl)
theorem d_jdk_38m2_4 : decode jdk_38_method_2_code 4 = .ok (.aload_n 0, 1) := by decide +kernel
theorem d_jdk_38m2_5 : decode jdk_38_method_2_code 5 = .ok (.getstatic 39, 3) := by decide +kernel
theorem wd65 {a0 : Array Value} {Z : State} (hw : HW a0 Z) : ((Jvm.Cond.fieldLink "java/util/ArrayList" (39 : Nat) "java/util/ArrayList" "DEFAULTCAPACITY_EMPTY_ELEMENTDATA" "[Ljava/lang/Object;") : Jvm.Cond).before a0 Z = true := hw _ (List.mem_of_getElem? (i := 65) rfl)
theorem d_jdk_38m2_8 : decode jdk_38_method_2_code 8 = .ok (.putfield 9, 3) := by decide +kernel
theorem wd66 {a0 : Array Value} {Z : State} (hw : HW a0 Z) : ((Jvm.Cond.fieldLink "java/util/ArrayList" (9 : Nat) "java/util/ArrayList" "elementData" "[Ljava/lang/Object;") : Jvm.Cond).before a0 Z = true := hw _ (List.mem_of_getElem? (i := 66) rfl)
theorem d_jdk_38m2_11 : decode jdk_38_method_2_code 11 = .ok (.return_, 1) := by decide +kernel
def Q_alinit (Z : State) (zC : Int32) (aE : Addr) (aD : Addr) (aM : Addr) (mO : Addr) (a1 : Addr) (h0 : Heap) (v : Option Value) (h : Heap) (L : List Loc) : Prop := v = none ∧ Fr Z.heap.size L ∧ Keep h0 h [a1] ∧ Exa Z h a1 "java/util/ArrayList" ∧ Fld Z h a1 "java/util/AbstractList" "modCount" "I" (.int (0 : Int32)) ∧ Fld Z h a1 "java/util/ArrayList" "size" "I" (.int (0 : Int32)) ∧ Fld Z h a1 "java/util/ArrayList" "elementData" "[Ljava/lang/Object;" (.ref aD)
theorem pn4 : plainName "java/util/ArrayList" = true := by first | (simp [plainName, overriddenIn]; done) | decide +kernel
theorem rm_alinit (l : Launch) (Z : State) (a0 : Array Value) (hw : HW a0 Z) (zC : Int32) (SC : tSC Z zC) (PC : ¬ zC = (0 : Int32)) (aE : Addr) (SE : tSE Z aE) (aD : Addr) (SD : tSD Z aD) (aM : Addr) (SM : tSM Z aM) (mO : Addr) (MO : tMO Z mO) (a1 : Addr) (h0 : Heap) (O0 : Old Z Z.heap.size h0) (P1 : Exa Z h0 a1 "java/util/ArrayList") (P2 : Fld Z h0 a1 "java/util/AbstractList" "modCount" "I" (.int (0 : Int32))) (P3 : Z.heap.size ≤ a1) (P4 : Fld Z h0 a1 "java/util/ArrayList" "size" "I" (.int (0 : Int32))) (P5 : Fld Z h0 a1 "java/util/ArrayList" "elementData" "[Ljava/lang/Object;" .null) :
    Con l Z (⟨"java/util/ArrayList", "<init>", "()V"⟩ : MethodName) jdk_38_method_2_code 1 none ({ frames := 3, cells := 0, slots := 0, locals := 36 } : Room) #[(.ref a1)] h0 (Q_alinit Z zC aE aD aM mO a1 h0) := by
  refine Con.intro (plainFor_of_name pn4) ?_
  intro p e s m below meth c T0 X0 hx hby hml hown0 hnm hret hlk hZ0 e0
  have N0 := Fr.nil Z.heap.size
  refine castGo (g' := mkF m 0 #[.val (.ref a1)] []) (by first | rfl | (simp [entryFrame, mkF, argsToLocals, Value.category]; done)) ?_
  show Go _ _ _ _ (T0.setTop (mkF m 0 #[.val (.ref a1)] []))
  refine aL X0 hx (hb hby d_jdk_38m2_0) (q := 1) rfl rfl rfl ?_
  refine g_sp X0 hx hZ0 hown0 (wd50 hw) (wd51 hw) (wd55 hw) rfl (by decide) e0 (Con.back (W := 0) (rm_ablinit2 l Z a0 hw zC SC PC aE SE aD SD aM SM mO MO a1 h0 O0 P1 P2 P3 P4 P5) hZ0 (wd55 hw) (wd54 hw) (by decide) (by decide)) (by rw [hml]; rfl) (lenOf pd1 rfl) rfl (Nat.le_of_eq rfl) (hb hby d_jdk_38m2_1) (q := 4) rfl (by decide) (by decide) ?_
  intro v52 T52 L52 X52 Q52
  obtain ⟨rfl, Nq52, K52q, q52_0, q52_1, q52_2, q52_3⟩ := Q52
  have N52 := Fr.app N0 Nq52
  show Go _ _ _ _ (T52.setTop (mkF m 4 #[.val (.ref a1)] []))
  refine aL X52 hx (hb hby d_jdk_38m2_4) (q := 5) rfl rfl rfl ?_
  have f54 : Old Z Z.heap.size T52.heap := O0.keep K52q (allS P3 all0)
  refine g_getS X52 hx hZ0 hown0 (host := "") (Or.inl (wd65 hw)) Via.refl (SD.ext f54.2) rfl (hb hby d_jdk_38m2_5) (q := 8) rfl ?_
  intro T53 X53 e53
  refine g_putF X53 hx hZ0 hown0 (host := "") (Or.inl (wd66 hw)) Via.refl q52_3 q52_0 (Or.inl (wd67 hw)) (wd45 hw) (ty := (.array (.object "java/lang/Object"))) (by decide) rfl rfl e53 (hb hby d_jdk_38m2_8) (q := 11) rfl ?_
  intro T55 h55 X55 e55 W55
  have N55 := Fr.snoc X55 N52 P3
  have Fw55 : Fld Z h55 a1 "java/util/ArrayList" "elementData" "[Ljava/lang/Object;" (.ref aD) := q52_3.same W55
  have K56 : Keep h0 T52.heap [a1] := (Keep.refl h0 [a1]).trans K52q (allS (Or.inl (by simp)) all0)
  have K57 : Keep h0 h55 [a1] := K56.wr W55 (Or.inl (by simp))
  have f58 : Exa Z h55 a1 "java/util/ArrayList" := q52_0.wr W55
  have f59 : Fld Z h55 a1 "java/util/AbstractList" "modCount" "I" (.int (0 : Int32)) := q52_1.other W55 (Or.inr (slot_ne (Or.inl (wd64 hw)) (Or.inl (wd67 hw)) (by decide) (t := .int) (t' := (.array (.object "java/lang/Object"))) (by decide) (by decide)))
  have f60 : Fld Z h55 a1 "java/util/ArrayList" "size" "I" (.int (0 : Int32)) := q52_2.other W55 (Or.inr (slot_ne (Or.inl (wd99 hw)) (Or.inl (wd67 hw)) (by decide) (t := .int) (t' := (.array (.object "java/lang/Object"))) (by decide) (by decide)))
  refine endP X55 hlk (fun _ => rfl) (lastV X55 hx hret (hb hby d_jdk_38m2_11)) ?_ (by decide) (by decide)
  rw [e55]
  exact ⟨rfl, N55, K57, f58, f59, f60, Fw55⟩
theorem d_prog_24m1_0 : decode prog_24_method_1_code 0 = .ok (.aload_n 0, 1) := by decide +kernel
theorem d_prog_24m1_1 : decode prog_24_method_1_code 1 = .ok (.invokespecial 1, 3) := by decide +kernel
theorem wd36 {a0 : Array Value} {Z : State} (hw : HW a0 Z) : ((Jvm.Cond.code ({ cls := "java/lang/Record", name := "<init>", desc := "()V" } : Jvm.MethodName) jdk_30_method_1_code (1 : Nat) (Option.none : Option Jvm.ClassFile.FieldType)) : Jvm.Cond).before a0 Z = true := hw _ (List.mem_of_getElem? (i := 36) rfl)
theorem wd35 {a0 : Array Value} {Z : State} (hw : HW a0 Z) : ((Jvm.Cond.initialized "java/lang/Record") : Jvm.Cond).before a0 Z = true := hw _ (List.mem_of_getElem? (i := 35) rfl)
theorem wd32 {a0 : Array Value} {Z : State} (hw : HW a0 Z) : ((Jvm.Cond.methodLink "com/example/quaymark/quaymark/Review$LeftOut" (1 : Nat) ({ cls := "java/lang/Record", name := "<init>", desc := "()V" } : Jvm.MethodName)) : Jvm.Cond).before a0 Z = true := hw _ (List.mem_of_getElem? (i := 32) rfl)
theorem wd33 {a0 : Array Value} {Z : State} (hw : HW a0 Z) : ((Jvm.Cond.instanceMethod ({ cls := "java/lang/Record", name := "<init>", desc := "()V" } : Jvm.MethodName)) : Jvm.Cond).before a0 Z = true := hw _ (List.mem_of_getElem? (i := 33) rfl)
theorem d_prog_24m1_4 : decode prog_24_method_1_code 4 = .ok (.aload_n 0, 1) := by decide +kernel
theorem d_prog_24m1_5 : decode prog_24_method_1_code 5 = .ok (.iload_n 1, 1) := by decide +kernel
theorem d_prog_24m1_6 : decode prog_24_method_1_code 6 = .ok (.putfield 7, 3) := by decide +kernel
theorem wd38 {a0 : Array Value} {Z : State} (hw : HW a0 Z) : ((Jvm.Cond.fieldLink "com/example/quaymark/quaymark/Review$LeftOut" (7 : Nat) "com/example/quaymark/quaymark/Review$LeftOut" "line" "I") : Jvm.Cond).before a0 Z = true := hw _ (List.mem_of_getElem? (i := 38) rfl)
theorem wd39 {a0 : Array Value} {Z : State} (hw : HW a0 Z) : ((Jvm.Cond.laysFinal "com/example/quaymark/quaymark/Review$LeftOut" "com/example/quaymark/quaymark/Review$LeftOut" "line" "I") : Jvm.Cond).before a0 Z = true := hw _ (List.mem_of_getElem? (i := 39) rfl)
theorem wd27 {a0 : Array Value} {Z : State} (hw : HW a0 Z) : ((Jvm.Cond.instantiable "com/example/quaymark/quaymark/Review$LeftOut" (3 : Nat)) : Jvm.Cond).before a0 Z = true := hw _ (List.mem_of_getElem? (i := 27) rfl)
theorem d_prog_24m1_9 : decode prog_24_method_1_code 9 = .ok (.aload_n 0, 1) := by decide +kernel
theorem d_prog_24m1_10 : decode prog_24_method_1_code 10 = .ok (.aload_n 2, 1) := by decide +kernel
theorem d_prog_24m1_11 : decode prog_24_method_1_code 11 = .ok (.putfield 13, 3) := by decide +kernel
theorem wd40 {a0 : Array Value} {Z : State} (hw : HW a0 Z) : ((Jvm.Cond.fieldLink "com/example/quaymark/quaymark/Review$LeftOut" (13 : Nat) "com/example/quaymark/quaymark/Review$LeftOut" "reason" "Ljava/lang/String;") : Jvm.Cond).before a0 Z = true := hw _ (List.mem_of_getElem? (i := 40) rfl)
theorem wd41 {a0 : Array Value} {Z : State} (hw : HW a0 Z) : ((Jvm.Cond.laysFinal "com/example/quaymark/quaymark/Review$LeftOut" "com/example/quaymark/quaymark/Review$LeftOut" "reason" "Ljava/lang/String;") : Jvm.Cond).before a0 Z = true := hw _ (List.mem_of_getElem? (i := 41) rfl)
theorem d_prog_24m1_14 : decode prog_24_method_1_code 14 = .ok (.aload_n 0, 1) := by decide +kernel
theorem d_prog_24m1_15 : decode prog_24_method_1_code 15 = .ok (.aload_n 3, 1) := by decide +kernel
theorem d_prog_24m1_16 : decode prog_24_method_1_code 16 = .ok (.putfield 17, 3) := by decide +kernel
theorem wd42 {a0 : Array Value} {Z : State} (hw : HW a0 Z) : ((Jvm.Cond.fieldLink "com/example/quaymark/quaymark/Review$LeftOut" (17 : Nat) "com/example/quaymark/quaymark/Review$LeftOut" "by" "Ljava/lang/String;") : Jvm.Cond).before a0 Z = true := hw _ (List.mem_of_getElem? (i := 42) rfl)
theorem wd43 {a0 : Array Value} {Z : State} (hw : HW a0 Z) : ((Jvm.Cond.laysFinal "com/example/quaymark/quaymark/Review$LeftOut" "com/example/quaymark/quaymark/Review$LeftOut" "by" "Ljava/lang/String;") : Jvm.Cond).before a0 Z = true := hw _ (List.mem_of_getElem? (i := 43) rfl)
theorem d_prog_24m1_19 : decode prog_24_method_1_code 19 = .ok (.return_, 1) := by decide +kernel
def Q_loinit (Z : State) (zC : Int32) (aE : Addr) (aD : Addr) (aM : Addr) (mO : Addr) (a1 : Addr) (p1 : Int32) (a2 : Addr) (a3 : Addr) (h0 : Heap) (v : Option Value) (h : Heap) (L : List Loc) : Prop := v = none ∧ Fr Z.heap.size L ∧ Keep h0 h [a1] ∧ Exa Z h a1 "com/example/quaymark/quaymark/Review$LeftOut"
theorem pn5 : plainName "com/example/quaymark/quaymark/Review$LeftOut" = true := by first | (simp [plainName, overriddenIn]; done) | decide +kernel
theorem rm_loinit (l : Launch) (Z : State) (a0 : Array Value) (hw : HW a0 Z) (zC : Int32) (SC : tSC Z zC) (PC : ¬ zC = (0 : Int32)) (aE : Addr) (SE : tSE Z aE) (aD : Addr) (SD : tSD Z aD) (aM : Addr) (SM : tSM Z aM) (mO : Addr) (MO : tMO Z mO) (a1 : Addr) (p1 : Int32) (a2 : Addr) (a3 : Addr) (h0 : Heap) (O0 : Old Z Z.heap.size h0) (P1 : Exa Z h0 a1 "com/example/quaymark/quaymark/Review$LeftOut") (P2 : Fld Z h0 a1 "com/example/quaymark/quaymark/Review$LeftOut" "line" "I" (.int (0 : Int32))) (P3 : Fld Z h0 a1 "com/example/quaymark/quaymark/Review$LeftOut" "reason" "Ljava/lang/String;" .null) (P4 : Fld Z h0 a1 "com/example/quaymark/quaymark/Review$LeftOut" "by" "Ljava/lang/String;" .null) (P5 : Z.heap.size ≤ a1) :
    Con l Z (⟨"com/example/quaymark/quaymark/Review$LeftOut", "<init>", "(ILjava/lang/String;Ljava/lang/String;)V"⟩ : MethodName) prog_24_method_1_code 4 none ({ frames := 2, cells := 0, slots := 0, locals := 24 } : Room) #[(.ref a1), (.int p1), (.ref a2), (.ref a3)] h0 (Q_loinit Z zC aE aD aM mO a1 p1 a2 a3 h0) := by
  refine Con.intro (plainFor_of_name pn5) ?_
  intro p e s m below meth c T0 X0 hx hby hml hown0 hnm hret hlk hZ0 e0
  have N0 := Fr.nil Z.heap.size
  refine castGo (g' := mkF m 0 #[.val (.ref a1), .val (.int p1), .val (.ref a2), .val (.ref a3)] []) (by first | rfl | (simp [entryFrame, mkF, argsToLocals, Value.category]; done)) ?_
  show Go _ _ _ _ (T0.setTop (mkF m 0 #[.val (.ref a1), .val (.int p1), .val (.ref a2), .val (.ref a3)] []))
  refine aL X0 hx (hb hby d_prog_24m1_0) (q := 1) rfl rfl rfl ?_
  refine g_sp X0 hx hZ0 hown0 (wd32 hw) (wd33 hw) (wd36 hw) rfl (by decide) e0 (Con.back (W := 0) (rm_recinit l Z a0 hw zC SC PC aE SE aD SD aM SM mO MO a1 h0 O0 ) hZ0 (wd36 hw) (wd35 hw) (by decide) (by decide)) (by rw [hml]; rfl) (lenOf pd1 rfl) rfl (Nat.le_of_eq rfl) (hb hby d_prog_24m1_1) (q := 4) rfl (by decide) (by decide) ?_
  intro v61 T61 L61 X61 Q61
  obtain ⟨rfl, Nq61, e61⟩ := Q61
  have N61 := Fr.app N0 Nq61
  show Go _ _ _ _ (T61.setTop (mkF m 4 #[.val (.ref a1), .val (.int p1), .val (.ref a2), .val (.ref a3)] []))
  refine aL X61 hx (hb hby d_prog_24m1_4) (q := 5) rfl rfl rfl ?_
  refine iL X61 hx (hb hby d_prog_24m1_5) (q := 6) rfl rfl ?_
  refine g_putF X61 hx hZ0 hown0 (host := "") (Or.inl (wd38 hw)) Via.refl P2 P1 (Or.inr ⟨(wd39 hw), rfl, hnm⟩) (wd27 hw) (ty := .int) (by decide) rfl rfl e61 (hb hby d_prog_24m1_6) (q := 9) rfl ?_
  intro T62 h62 X62 e62 W62
  have N62 := Fr.snoc X62 N61 P5
  have Fw62 : Fld Z h62 a1 "com/example/quaymark/quaymark/Review$LeftOut" "line" "I" (.int p1) := P2.same W62
  refine aL X62 hx (hb hby d_prog_24m1_9) (q := 10) rfl rfl rfl ?_
  refine aL X62 hx (hb hby d_prog_24m1_10) (q := 11) rfl rfl rfl ?_
  have f63 : Fld Z h62 a1 "com/example/quaymark/quaymark/Review$LeftOut" "reason" "Ljava/lang/String;" .null := P3.other W62 (Or.inr (slot_ne (Or.inr (wd41 hw)) (Or.inr (wd39 hw)) (by decide) (t := (.object "java/lang/String")) (t' := .int) (by decide) (by decide)))
  have f64 : Exa Z h62 a1 "com/example/quaymark/quaymark/Review$LeftOut" := P1.wr W62
  refine g_putF X62 hx hZ0 hown0 (host := "") (Or.inl (wd40 hw)) Via.refl f63 f64 (Or.inr ⟨(wd41 hw), rfl, hnm⟩) (wd27 hw) (ty := (.object "java/lang/String")) (by decide) rfl rfl e62 (hb hby d_prog_24m1_11) (q := 14) rfl ?_
  intro T65 h65 X65 e65 W65
  have N65 := Fr.snoc X65 N62 P5
  have Fw65 : Fld Z h65 a1 "com/example/quaymark/quaymark/Review$LeftOut" "reason" "Ljava/lang/String;" (.ref a2) := f63.same W65
  refine aL X65 hx (hb hby d_prog_24m1_14) (q := 15) rfl rfl rfl ?_
  refine aL X65 hx (hb hby d_prog_24m1_15) (q := 16) rfl rfl rfl ?_
  have f66 : Fld Z h62 a1 "com/example/quaymark/quaymark/Review$LeftOut" "by" "Ljava/lang/String;" .null := P4.other W62 (Or.inr (slot_ne (Or.inr (wd43 hw)) (Or.inr (wd39 hw)) (by decide) (t := (.object "java/lang/String")) (t' := .int) (by decide) (by decide)))
  have f67 : Fld Z h65 a1 "com/example/quaymark/quaymark/Review$LeftOut" "by" "Ljava/lang/String;" .null := f66.other W65 (Or.inr (slot_ne (Or.inr (wd43 hw)) (Or.inr (wd41 hw)) (by decide) (t := (.object "java/lang/String")) (t' := (.object "java/lang/String")) (by decide) (by decide)))
  have f68 : Exa Z h65 a1 "com/example/quaymark/quaymark/Review$LeftOut" := f64.wr W65
  refine g_putF X65 hx hZ0 hown0 (host := "") (Or.inl (wd42 hw)) Via.refl f67 f68 (Or.inr ⟨(wd43 hw), rfl, hnm⟩) (wd27 hw) (ty := (.object "java/lang/String")) (by decide) rfl rfl e65 (hb hby d_prog_24m1_16) (q := 19) rfl ?_
  intro T69 h69 X69 e69 W69
  have N69 := Fr.snoc X69 N65 P5
  have Fw69 : Fld Z h69 a1 "com/example/quaymark/quaymark/Review$LeftOut" "by" "Ljava/lang/String;" (.ref a3) := f67.same W69
  have K70 : Keep h0 h62 [a1] := (Keep.refl h0 [a1]).wr W62 (Or.inl (by simp))
  have K71 : Keep h0 h65 [a1] := K70.wr W65 (Or.inl (by simp))
  have K72 : Keep h0 h69 [a1] := K71.wr W69 (Or.inl (by simp))
  have f73 : Exa Z h69 a1 "com/example/quaymark/quaymark/Review$LeftOut" := f68.wr W69
  refine endP X69 hlk (fun _ => rfl) (lastV X69 hx hret (hb hby d_prog_24m1_19)) ?_ (by decide) (by decide)
  rw [e69]
  exact ⟨rfl, N69, K72, f73⟩
theorem d_prog_25m1_0 : decode prog_25_method_1_code 0 = .ok (.aload_n 0, 1) := by decide +kernel
theorem d_prog_25m1_1 : decode prog_25_method_1_code 1 = .ok (.invokespecial 1, 3) := by decide +kernel
theorem wd172 {a0 : Array Value} {Z : State} (hw : HW a0 Z) : ((Jvm.Cond.methodLink "com/example/quaymark/quaymark/Review$Withdrawal" (1 : Nat) ({ cls := "java/lang/Record", name := "<init>", desc := "()V" } : Jvm.MethodName)) : Jvm.Cond).before a0 Z = true := hw _ (List.mem_of_getElem? (i := 172) rfl)
theorem d_prog_25m1_4 : decode prog_25_method_1_code 4 = .ok (.aload_n 0, 1) := by decide +kernel
theorem d_prog_25m1_5 : decode prog_25_method_1_code 5 = .ok (.aload_n 1, 1) := by decide +kernel
theorem d_prog_25m1_6 : decode prog_25_method_1_code 6 = .ok (.putfield 7, 3) := by decide +kernel
theorem wd173 {a0 : Array Value} {Z : State} (hw : HW a0 Z) : ((Jvm.Cond.fieldLink "com/example/quaymark/quaymark/Review$Withdrawal" (7 : Nat) "com/example/quaymark/quaymark/Review$Withdrawal" "reason" "Ljava/lang/String;") : Jvm.Cond).before a0 Z = true := hw _ (List.mem_of_getElem? (i := 173) rfl)
theorem wd174 {a0 : Array Value} {Z : State} (hw : HW a0 Z) : ((Jvm.Cond.laysFinal "com/example/quaymark/quaymark/Review$Withdrawal" "com/example/quaymark/quaymark/Review$Withdrawal" "reason" "Ljava/lang/String;") : Jvm.Cond).before a0 Z = true := hw _ (List.mem_of_getElem? (i := 174) rfl)
theorem wd167 {a0 : Array Value} {Z : State} (hw : HW a0 Z) : ((Jvm.Cond.instantiable "com/example/quaymark/quaymark/Review$Withdrawal" (2 : Nat)) : Jvm.Cond).before a0 Z = true := hw _ (List.mem_of_getElem? (i := 167) rfl)
theorem d_prog_25m1_9 : decode prog_25_method_1_code 9 = .ok (.aload_n 0, 1) := by decide +kernel
theorem d_prog_25m1_10 : decode prog_25_method_1_code 10 = .ok (.aload_n 2, 1) := by decide +kernel
theorem d_prog_25m1_11 : decode prog_25_method_1_code 11 = .ok (.putfield 13, 3) := by decide +kernel
theorem wd175 {a0 : Array Value} {Z : State} (hw : HW a0 Z) : ((Jvm.Cond.fieldLink "com/example/quaymark/quaymark/Review$Withdrawal" (13 : Nat) "com/example/quaymark/quaymark/Review$Withdrawal" "by" "Ljava/lang/String;") : Jvm.Cond).before a0 Z = true := hw _ (List.mem_of_getElem? (i := 175) rfl)
theorem wd176 {a0 : Array Value} {Z : State} (hw : HW a0 Z) : ((Jvm.Cond.laysFinal "com/example/quaymark/quaymark/Review$Withdrawal" "com/example/quaymark/quaymark/Review$Withdrawal" "by" "Ljava/lang/String;") : Jvm.Cond).before a0 Z = true := hw _ (List.mem_of_getElem? (i := 176) rfl)
theorem d_prog_25m1_14 : decode prog_25_method_1_code 14 = .ok (.return_, 1) := by decide +kernel
def Q_wdinit (Z : State) (zC : Int32) (aE : Addr) (aD : Addr) (aM : Addr) (mO : Addr) (a1 : Addr) (a2 : Addr) (a3 : Addr) (h0 : Heap) (v : Option Value) (h : Heap) (L : List Loc) : Prop := v = none ∧ Fr Z.heap.size L ∧ Keep h0 h [a1] ∧ Exa Z h a1 "com/example/quaymark/quaymark/Review$Withdrawal"
theorem pn6 : plainName "com/example/quaymark/quaymark/Review$Withdrawal" = true := by first | (simp [plainName, overriddenIn]; done) | decide +kernel
theorem rm_wdinit (l : Launch) (Z : State) (a0 : Array Value) (hw : HW a0 Z) (zC : Int32) (SC : tSC Z zC) (PC : ¬ zC = (0 : Int32)) (aE : Addr) (SE : tSE Z aE) (aD : Addr) (SD : tSD Z aD) (aM : Addr) (SM : tSM Z aM) (mO : Addr) (MO : tMO Z mO) (a1 : Addr) (a2 : Addr) (a3 : Addr) (h0 : Heap) (O0 : Old Z Z.heap.size h0) (P1 : Exa Z h0 a1 "com/example/quaymark/quaymark/Review$Withdrawal") (P3 : Fld Z h0 a1 "com/example/quaymark/quaymark/Review$Withdrawal" "reason" "Ljava/lang/String;" .null) (P4 : Fld Z h0 a1 "com/example/quaymark/quaymark/Review$Withdrawal" "by" "Ljava/lang/String;" .null) (P5 : Z.heap.size ≤ a1) :
    Con l Z (⟨"com/example/quaymark/quaymark/Review$Withdrawal", "<init>", "(Ljava/lang/String;Ljava/lang/String;)V"⟩ : MethodName) prog_25_method_1_code 3 none ({ frames := 2, cells := 0, slots := 0, locals := 24 } : Room) #[(.ref a1), (.ref a2), (.ref a3)] h0 (Q_wdinit Z zC aE aD aM mO a1 a2 a3 h0) := by
  refine Con.intro (plainFor_of_name pn6) ?_
  intro p e s m below meth c T0 X0 hx hby hml hown0 hnm hret hlk hZ0 e0
  have N0 := Fr.nil Z.heap.size
  refine castGo (g' := mkF m 0 #[.val (.ref a1), .val (.ref a2), .val (.ref a3)] []) (by first | rfl | (simp [entryFrame, mkF, argsToLocals, Value.category]; done)) ?_
  show Go _ _ _ _ (T0.setTop (mkF m 0 #[.val (.ref a1), .val (.ref a2), .val (.ref a3)] []))
  refine aL X0 hx (hb hby d_prog_25m1_0) (q := 1) rfl rfl rfl ?_
  refine g_sp X0 hx hZ0 hown0 (wd172 hw) (wd33 hw) (wd36 hw) rfl (by decide) e0 (Con.back (W := 0) (rm_recinit l Z a0 hw zC SC PC aE SE aD SD aM SM mO MO a1 h0 O0 ) hZ0 (wd36 hw) (wd35 hw) (by decide) (by decide)) (by rw [hml]; rfl) (lenOf pd1 rfl) rfl (Nat.le_of_eq rfl) (hb hby d_prog_25m1_1) (q := 4) rfl (by decide) (by decide) ?_
  intro v74 T74 L74 X74 Q74
  obtain ⟨rfl, Nq74, e74⟩ := Q74
  have N74 := Fr.app N0 Nq74
  show Go _ _ _ _ (T74.setTop (mkF m 4 #[.val (.ref a1), .val (.ref a2), .val (.ref a3)] []))
  refine aL X74 hx (hb hby d_prog_25m1_4) (q := 5) rfl rfl rfl ?_
  refine aL X74 hx (hb hby d_prog_25m1_5) (q := 6) rfl rfl rfl ?_
  refine g_putF X74 hx hZ0 hown0 (host := "") (Or.inl (wd173 hw)) Via.refl P3 P1 (Or.inr ⟨(wd174 hw), rfl, hnm⟩) (wd167 hw) (ty := (.object "java/lang/String")) (by decide) rfl rfl e74 (hb hby d_prog_25m1_6) (q := 9) rfl ?_
  intro T75 h75 X75 e75 W75
  have N75 := Fr.snoc X75 N74 P5
  have Fw75 : Fld Z h75 a1 "com/example/quaymark/quaymark/Review$Withdrawal" "reason" "Ljava/lang/String;" (.ref a2) := P3.same W75
  refine aL X75 hx (hb hby d_prog_25m1_9) (q := 10) rfl rfl rfl ?_
  refine aL X75 hx (hb hby d_prog_25m1_10) (q := 11) rfl rfl rfl ?_
  have f76 : Fld Z h75 a1 "com/example/quaymark/quaymark/Review$Withdrawal" "by" "Ljava/lang/String;" .null := P4.other W75 (Or.inr (slot_ne (Or.inr (wd176 hw)) (Or.inr (wd174 hw)) (by decide) (t := (.object "java/lang/String")) (t' := (.object "java/lang/String")) (by decide) (by decide)))
  have f77 : Exa Z h75 a1 "com/example/quaymark/quaymark/Review$Withdrawal" := P1.wr W75
  refine g_putF X75 hx hZ0 hown0 (host := "") (Or.inl (wd175 hw)) Via.refl f76 f77 (Or.inr ⟨(wd176 hw), rfl, hnm⟩) (wd167 hw) (ty := (.object "java/lang/String")) (by decide) rfl rfl e75 (hb hby d_prog_25m1_11) (q := 14) rfl ?_
  intro T78 h78 X78 e78 W78
  have N78 := Fr.snoc X78 N75 P5
  have Fw78 : Fld Z h78 a1 "com/example/quaymark/quaymark/Review$Withdrawal" "by" "Ljava/lang/String;" (.ref a3) := f76.same W78
  have K79 : Keep h0 h75 [a1] := (Keep.refl h0 [a1]).wr W75 (Or.inl (by simp))
  have K80 : Keep h0 h78 [a1] := K79.wr W78 (Or.inl (by simp))
  have f81 : Exa Z h78 a1 "com/example/quaymark/quaymark/Review$Withdrawal" := f77.wr W78
  refine endP X78 hlk (fun _ => rfl) (lastV X78 hx hret (hb hby d_prog_25m1_14)) ?_ (by decide) (by decide)
  rw [e78]
  exact ⟨rfl, N78, K80, f81⟩
theorem d_jdk_29m65_0 : decode jdk_29_method_65_code 0 = .ok (.iload_n 0, 1) := by decide +kernel
theorem d_jdk_29m65_1 : decode jdk_29_method_65_code 1 = .ok (.iload_n 1, 1) := by decide +kernel
theorem d_jdk_29m65_2 : decode jdk_29_method_65_code 2 = .ok (.if_icmp .lt 7, 3) := by decide +kernel
theorem d_jdk_29m65_5 : decode jdk_29_method_65_code 5 = .ok (.iload_n 0, 1) := by decide +kernel
theorem d_jdk_29m65_6 : decode jdk_29_method_65_code 6 = .ok (.goto 4, 3) := by decide +kernel
theorem d_jdk_29m65_10 : decode jdk_29_method_65_code 10 = .ok (.ireturn, 1) := by decide +kernel
def Q_max (Z : State) (zC : Int32) (aE : Addr) (aD : Addr) (aM : Addr) (mO : Addr) (h0 : Heap) (v : Option Value) (h : Heap) (L : List Loc) : Prop := v = some (.int (10 : Int32)) ∧ Fr Z.heap.size L ∧ h = h0
theorem pf7 : plainFor (⟨"java/lang/Math", "max", "(II)I"⟩ : MethodName) = true := by decide +kernel
theorem rm_max (l : Launch) (Z : State) (a0 : Array Value) (hw : HW a0 Z) (zC : Int32) (SC : tSC Z zC) (PC : ¬ zC = (0 : Int32)) (aE : Addr) (SE : tSE Z aE) (aD : Addr) (SD : tSD Z aD) (aM : Addr) (SM : tSM Z aM) (mO : Addr) (MO : tMO Z mO)  (h0 : Heap) (O0 : Old Z Z.heap.size h0)  :
    Con l Z (⟨"java/lang/Math", "max", "(II)I"⟩ : MethodName) jdk_29_method_65_code 2 (some .int) ({ frames := 0, cells := 0, slots := 0, locals := 0 } : Room) #[(.int (10 : Int32)), (.int (1 : Int32))] h0 (Q_max Z zC aE aD aM mO h0) := by
  refine Con.intro pf7 ?_
  intro p e s m below meth c T0 X0 hx hby hml hown0 hnm hret hlk hZ0 e0
  have N0 := Fr.nil Z.heap.size
  refine castGo (g' := mkF m 0 #[.val (.int (10 : Int32)), .val (.int (1 : Int32))] []) (by first | rfl | (simp [entryFrame, mkF, argsToLocals, Value.category]; done)) ?_
  show Go _ _ _ _ (T0.setTop (mkF m 0 #[.val (.int (10 : Int32)), .val (.int (1 : Int32))] []))
  refine iL X0 hx (hb hby d_jdk_29m65_0) (q := 1) rfl rfl ?_
  refine iL X0 hx (hb hby d_jdk_29m65_1) (q := 2) rfl rfl ?_
  refine icN X0 hx (hb hby d_jdk_29m65_2) (q := 5) rfl (by decide) ?_
  refine iL X0 hx (hb hby d_jdk_29m65_5) (q := 6) rfl rfl ?_
  refine g_goto X0 hx (hb hby d_jdk_29m65_6) (q := 10) (by decide) (by decide) ?_
  refine endP X0 hlk (fun h => by rw [hret] at h; cases h) (lastI X0 hx hret (hb hby d_jdk_29m65_10)) ?_ (by decide) (by decide)
  rw [e0]
  exact ⟨rfl, N0, rfl⟩
theorem d_jdk_29m69_0 : decode jdk_29_method_69_code 0 = .ok (.iload_n 0, 1) := by decide +kernel
theorem d_jdk_29m69_1 : decode jdk_29_method_69_code 1 = .ok (.iload_n 1, 1) := by decide +kernel
theorem d_jdk_29m69_2 : decode jdk_29_method_69_code 2 = .ok (.if_icmp .gt 7, 3) := by decide +kernel
theorem d_jdk_29m69_9 : decode jdk_29_method_69_code 9 = .ok (.iload_n 1, 1) := by decide +kernel
theorem d_jdk_29m69_10 : decode jdk_29_method_69_code 10 = .ok (.ireturn, 1) := by decide +kernel
def Q_min1 (Z : State) (zC : Int32) (aE : Addr) (aD : Addr) (aM : Addr) (mO : Addr) (h0 : Heap) (v : Option Value) (h : Heap) (L : List Loc) : Prop := v = some (.int (1 : Int32)) ∧ Fr Z.heap.size L ∧ h = h0
theorem pf8 : plainFor (⟨"java/lang/Math", "min", "(II)I"⟩ : MethodName) = true := by decide +kernel
theorem rm_min1 (l : Launch) (Z : State) (a0 : Array Value) (hw : HW a0 Z) (zC : Int32) (SC : tSC Z zC) (PC : ¬ zC = (0 : Int32)) (aE : Addr) (SE : tSE Z aE) (aD : Addr) (SD : tSD Z aD) (aM : Addr) (SM : tSM Z aM) (mO : Addr) (MO : tMO Z mO)  (h0 : Heap) (O0 : Old Z Z.heap.size h0)  :
    Con l Z (⟨"java/lang/Math", "min", "(II)I"⟩ : MethodName) jdk_29_method_69_code 2 (some .int) ({ frames := 0, cells := 0, slots := 0, locals := 0 } : Room) #[(.int (10 : Int32)), (.int (1 : Int32))] h0 (Q_min1 Z zC aE aD aM mO h0) := by
  refine Con.intro pf8 ?_
  intro p e s m below meth c T0 X0 hx hby hml hown0 hnm hret hlk hZ0 e0
  have N0 := Fr.nil Z.heap.size
  refine castGo (g' := mkF m 0 #[.val (.int (10 : Int32)), .val (.int (1 : Int32))] []) (by first | rfl | (simp [entryFrame, mkF, argsToLocals, Value.category]; done)) ?_
  show Go _ _ _ _ (T0.setTop (mkF m 0 #[.val (.int (10 : Int32)), .val (.int (1 : Int32))] []))
  refine iL X0 hx (hb hby d_jdk_29m69_0) (q := 1) rfl rfl ?_
  refine iL X0 hx (hb hby d_jdk_29m69_1) (q := 2) rfl rfl ?_
  refine icY X0 hx (hb hby d_jdk_29m69_2) (q := 9) (by decide) (by decide) (by decide) ?_
  refine iL X0 hx (hb hby d_jdk_29m69_9) (q := 10) rfl rfl ?_
  refine endP X0 hlk (fun h => by rw [hret] at h; cases h) (lastI X0 hx hret (hb hby d_jdk_29m69_10)) ?_ (by decide) (by decide)
  rw [e0]
  exact ⟨rfl, N0, rfl⟩
def Q_min2 (Z : State) (zC : Int32) (aE : Addr) (aD : Addr) (aM : Addr) (mO : Addr) (h0 : Heap) (v : Option Value) (h : Heap) (L : List Loc) : Prop := v = some (.int (2 : Int32)) ∧ Fr Z.heap.size L ∧ h = h0
theorem rm_min2 (l : Launch) (Z : State) (a0 : Array Value) (hw : HW a0 Z) (zC : Int32) (SC : tSC Z zC) (PC : ¬ zC = (0 : Int32)) (aE : Addr) (SE : tSE Z aE) (aD : Addr) (SD : tSD Z aD) (aM : Addr) (SM : tSM Z aM) (mO : Addr) (MO : tMO Z mO)  (h0 : Heap) (O0 : Old Z Z.heap.size h0)  :
    Con l Z (⟨"java/lang/Math", "min", "(II)I"⟩ : MethodName) jdk_29_method_69_code 2 (some .int) ({ frames := 0, cells := 0, slots := 0, locals := 0 } : Room) #[(.int (10 : Int32)), (.int (2 : Int32))] h0 (Q_min2 Z zC aE aD aM mO h0) := by
  refine Con.intro pf8 ?_
  intro p e s m below meth c T0 X0 hx hby hml hown0 hnm hret hlk hZ0 e0
  have N0 := Fr.nil Z.heap.size
  refine castGo (g' := mkF m 0 #[.val (.int (10 : Int32)), .val (.int (2 : Int32))] []) (by first | rfl | (simp [entryFrame, mkF, argsToLocals, Value.category]; done)) ?_
  show Go _ _ _ _ (T0.setTop (mkF m 0 #[.val (.int (10 : Int32)), .val (.int (2 : Int32))] []))
  refine iL X0 hx (hb hby d_jdk_29m69_0) (q := 1) rfl rfl ?_
  refine iL X0 hx (hb hby d_jdk_29m69_1) (q := 2) rfl rfl ?_
  refine icY X0 hx (hb hby d_jdk_29m69_2) (q := 9) (by decide) (by decide) (by decide) ?_
  refine iL X0 hx (hb hby d_jdk_29m69_9) (q := 10) rfl rfl ?_
  refine endP X0 hlk (fun h => by rw [hret] at h; cases h) (lastI X0 hx hret (hb hby d_jdk_29m69_10)) ?_ (by decide) (by decide)
  rw [e0]
  exact ⟨rfl, N0, rfl⟩
theorem d_jdk_38m6_0 : decode jdk_38_method_6_code 0 = .ok (.aload_n 0, 1) := by decide +kernel
theorem d_jdk_38m6_1 : decode jdk_38_method_6_code 1 = .ok (.getfield 9, 3) := by decide +kernel
theorem d_jdk_38m6_4 : decode jdk_38_method_6_code 4 = .ok (.arraylength, 1) := by decide +kernel
theorem d_jdk_38m6_5 : decode jdk_38_method_6_code 5 = .ok (.istore_n 2, 1) := by decide +kernel
theorem d_jdk_38m6_6 : decode jdk_38_method_6_code 6 = .ok (.iload_n 2, 1) := by decide +kernel
theorem d_jdk_38m6_7 : decode jdk_38_method_6_code 7 = .ok (.ifCond .gt 13, 3) := by decide +kernel
theorem d_jdk_38m6_10 : decode jdk_38_method_6_code 10 = .ok (.aload_n 0, 1) := by decide +kernel
theorem d_jdk_38m6_11 : decode jdk_38_method_6_code 11 = .ok (.getfield 9, 3) := by decide +kernel
theorem d_jdk_38m6_14 : decode jdk_38_method_6_code 14 = .ok (.getstatic 39, 3) := by decide +kernel
theorem d_jdk_38m6_17 : decode jdk_38_method_6_code 17 = .ok (.if_acmp .eq 28, 3) := by decide +kernel
theorem d_jdk_38m6_45 : decode jdk_38_method_6_code 45 = .ok (.aload_n 0, 1) := by decide +kernel
theorem d_jdk_38m6_46 : decode jdk_38_method_6_code 46 = .ok (.bipush 10, 2) := by decide +kernel
theorem d_jdk_38m6_48 : decode jdk_38_method_6_code 48 = .ok (.iload_n 1, 1) := by decide +kernel
theorem d_jdk_38m6_49 : decode jdk_38_method_6_code 49 = .ok (.invokestatic 79, 3) := by decide +kernel
theorem wd206 {a0 : Array Value} {Z : State} (hw : HW a0 Z) : ((Jvm.Cond.code ({ cls := "java/lang/Math", name := "max", desc := "(II)I" } : Jvm.MethodName) jdk_29_method_65_code (2 : Nat) (Option.some Jvm.ClassFile.FieldType.int)) : Jvm.Cond).before a0 Z = true := hw _ (List.mem_of_getElem? (i := 206) rfl)
theorem wd205 {a0 : Array Value} {Z : State} (hw : HW a0 Z) : ((Jvm.Cond.initialized "java/lang/Math") : Jvm.Cond).before a0 Z = true := hw _ (List.mem_of_getElem? (i := 205) rfl)
theorem pd2 : parseMethodDescriptor "(II)I" = some ⟨[.int, .int], some .int⟩ := by decide +kernel
theorem wd203 {a0 : Array Value} {Z : State} (hw : HW a0 Z) : ((Jvm.Cond.methodLink "java/util/ArrayList" (79 : Nat) ({ cls := "java/lang/Math", name := "max", desc := "(II)I" } : Jvm.MethodName)) : Jvm.Cond).before a0 Z = true := hw _ (List.mem_of_getElem? (i := 203) rfl)
theorem wd204 {a0 : Array Value} {Z : State} (hw : HW a0 Z) : ((Jvm.Cond.static ({ cls := "java/lang/Math", name := "max", desc := "(II)I" } : Jvm.MethodName)) : Jvm.Cond).before a0 Z = true := hw _ (List.mem_of_getElem? (i := 204) rfl)
theorem d_jdk_38m6_52 : decode jdk_38_method_6_code 52 = .ok (.anewarray 7, 3) := by decide +kernel
theorem wd207 {a0 : Array Value} {Z : State} (hw : HW a0 Z) : ((Jvm.Cond.classLink "java/util/ArrayList" (7 : Nat) "java/lang/Object") : Jvm.Cond).before a0 Z = true := hw _ (List.mem_of_getElem? (i := 207) rfl)
theorem wd208 {a0 : Array Value} {Z : State} (hw : HW a0 Z) : ((Jvm.Cond.arrayOver (Jvm.ClassFile.FieldType.object "java/lang/Object")) : Jvm.Cond).before a0 Z = true := hw _ (List.mem_of_getElem? (i := 208) rfl)
theorem d_jdk_38m6_55 : decode jdk_38_method_6_code 55 = .ok (.dup_x1, 1) := by decide +kernel
theorem d_jdk_38m6_56 : decode jdk_38_method_6_code 56 = .ok (.putfield 9, 3) := by decide +kernel
theorem d_jdk_38m6_59 : decode jdk_38_method_6_code 59 = .ok (.areturn, 1) := by decide +kernel
def Q_growI (Z : State) (zC : Int32) (aE : Addr) (aD : Addr) (aM : Addr) (mO : Addr) (a1 : Addr) (dK : ClassId) (dL : List Value) (mc : Int32) (h0 : Heap) (v : Option Value) (h : Heap) (L : List Loc) : Prop := ∃ (r : Addr), ∃ (kr : ClassId), v = some (.ref r) ∧ Fr Z.heap.size L ∧ Keep h0 h [a1] ∧ Exa Z h a1 "java/util/ArrayList" ∧ Fld Z h a1 "java/util/ArrayList" "size" "I" (.int (0 : Int32)) ∧ Fld Z h a1 "java/util/ArrayList" "elementData" "[Ljava/lang/Object;" (.ref r) ∧ h0.size ≤ r ∧ Arv Z h r kr (.object "java/lang/Object") (10 : Int32) [.null, .null, .null, .null, .null, .null, .null, .null, .null, .null] .null ∧ Exa Z h r "[Ljava/lang/Object;" ∧ Ovr Z kr "java/lang/Object" ∧ Fld Z h a1 "java/util/AbstractList" "modCount" "I" (.int mc)
theorem rm_growI (l : Launch) (Z : State) (a0 : Array Value) (hw : HW a0 Z) (zC : Int32) (SC : tSC Z zC) (PC : ¬ zC = (0 : Int32)) (aE : Addr) (SE : tSE Z aE) (aD : Addr) (SD : tSD Z aD) (aM : Addr) (SM : tSM Z aM) (mO : Addr) (MO : tMO Z mO) (a1 : Addr) (dK : ClassId) (dL : List Value) (mc : Int32) (h0 : Heap) (O0 : Old Z Z.heap.size h0) (P1 : Exa Z h0 a1 "java/util/ArrayList") (P2 : Fld Z h0 a1 "java/util/ArrayList" "size" "I" (.int (0 : Int32))) (P3 : Fld Z h0 a1 "java/util/ArrayList" "elementData" "[Ljava/lang/Object;" (.ref aD)) (P4 : Z.heap.size ≤ a1) (PD1 : Exa Z h0 aD "[Ljava/lang/Object;") (PD2 : Arv Z h0 aD dK (.object "java/lang/Object") (0 : Int32) dL .null) (Pmc : Fld Z h0 a1 "java/util/AbstractList" "modCount" "I" (.int mc)) :
    Con l Z (⟨"java/util/ArrayList", "grow", "(I)[Ljava/lang/Object;"⟩ : MethodName) jdk_38_method_6_code 4 (some (.array (.object "java/lang/Object"))) ({ frames := 1, cells := 1, slots := 10, locals := 14 } : Room) #[(.ref a1), (.int (1 : Int32))] h0 (Q_growI Z zC aE aD aM mO a1 dK dL mc h0) := by
  refine Con.intro (plainFor_of_name pn4) ?_
  intro p e s m below meth c T0 X0 hx hby hml hown0 hnm hret hlk hZ0 e0
  have N0 := Fr.nil Z.heap.size
  refine castGo (g' := mkF m 0 #[.val (.ref a1), .val (.int (1 : Int32)), .unset, .unset] []) (by first | rfl | (simp [entryFrame, mkF, argsToLocals, Value.category]; done)) ?_
  show Go _ _ _ _ (T0.setTop (mkF m 0 #[.val (.ref a1), .val (.int (1 : Int32)), .unset, .unset] []))
  refine aL X0 hx (hb hby d_jdk_38m6_0) (q := 1) rfl rfl rfl ?_
  refine g_getF X0 hx hZ0 hown0 (host := "") (Or.inl (wd66 hw)) Via.refl P3 e0 (hb hby d_jdk_38m6_1) (q := 4) rfl ?_
  intro T82 X82 e82
  refine g_len X82 hx hZ0 PD2 e82 (hb hby d_jdk_38m6_4) (q := 5) rfl ?_
  refine sI X82 hx (hb hby d_jdk_38m6_5) (q := 6) rfl (Ls' := #[.val (.ref a1), .val (.int (1 : Int32)), .val (.int (0 : Int32)), .unset]) rfl ?_
  refine iL X82 hx (hb hby d_jdk_38m6_6) (q := 7) rfl rfl ?_
  refine ifN X82 hx (hb hby d_jdk_38m6_7) (q := 10) rfl (by decide) ?_
  refine aL X82 hx (hb hby d_jdk_38m6_10) (q := 11) rfl rfl rfl ?_
  refine g_getF X82 hx hZ0 hown0 (host := "") (Or.inl (wd66 hw)) Via.refl P3 e82 (hb hby d_jdk_38m6_11) (q := 14) rfl ?_
  intro T83 X83 e83
  refine g_getS X83 hx hZ0 hown0 (host := "") (Or.inl (wd65 hw)) Via.refl (SD.ext O0.2) e83 (hb hby d_jdk_38m6_14) (q := 17) rfl ?_
  intro T84 X84 e84
  refine g_acmp X84 hx (hb hby d_jdk_38m6_17) (q := 45) rfl rfl (same := true) (decide_eq_true rfl) (by decide) (by decide) ?_
  refine aL X84 hx (hb hby d_jdk_38m6_45) (q := 46) rfl rfl rfl ?_
  refine bI X84 hx (hb hby d_jdk_38m6_46) (q := 48) rfl (z := (10 : Int32)) rfl ?_
  refine iL X84 hx (hb hby d_jdk_38m6_48) (q := 49) rfl rfl ?_
  refine g_st X84 hx hZ0 hown0 (wd203 hw) (wd204 hw) (wd205 hw) (wd206 hw) (by decide) e84 (Con.back (W := 1) (rm_max l Z a0 hw zC SC PC aE SE aD SD aM SM mO MO  h0 O0 ) hZ0 (wd206 hw) (wd205 hw) (by decide) (by decide)) (by rw [hml]; rfl) (lenOf pd2 rfl) rfl (Nat.le_of_eq rfl) (hb hby d_jdk_38m6_49) (q := 52) rfl (by decide) (by decide) ?_
  intro v85 T85 L85 X85 Q85
  obtain ⟨rfl, Nq85, e85⟩ := Q85
  have N85 := Fr.app N0 Nq85
  show Go _ _ _ _ (T85.setTop (mkF m 52 #[.val (.ref a1), .val (.int (1 : Int32)), .val (.int (0 : Int32)), .unset] [(.int (10 : Int32)), (.ref a1)]))
  refine g_newR X85 hx hZ0 hown0 (wd207 hw) (wd208 hw) (ad := "[Ljava/lang/Object;") (by decide) (by decide) (n := 10) (by decide) (by decide) (by decide) (by decide) e85 (hb hby d_jdk_38m6_52) (q := 55) rfl ?_
  intro T86 h86 k86 b86 g86 X86 e86 E86 V86 A86 O86
  have Va86 : Arv Z h86 b86 k86 (.object "java/lang/Object") (10 : Int32) [.null, .null, .null, .null, .null, .null, .null, .null, .null, .null] .null := V86
  refine g_dupX1 X86 hx (hb hby d_jdk_38m6_55) (q := 56) rfl rfl rfl ?_
  have f87 : Fld Z h86 a1 "java/util/ArrayList" "elementData" "[Ljava/lang/Object;" (.ref aD) := P3.ext E86
  have f88 : Exa Z h86 a1 "java/util/ArrayList" := P1.ext E86
  refine g_putF X86 hx hZ0 hown0 (host := "") (Or.inl (wd66 hw)) Via.refl f87 f88 (Or.inl (wd67 hw)) (wd45 hw) (ty := (.array (.object "java/lang/Object"))) (by decide) rfl rfl e86 (hb hby d_jdk_38m6_56) (q := 59) rfl ?_
  intro T89 h89 X89 e89 W89
  have N89 := Fr.snoc X89 N85 P4
  have Fw89 : Fld Z h89 a1 "java/util/ArrayList" "elementData" "[Ljava/lang/Object;" (.ref b86) := f87.same W89
  have K90 : Keep h0 h86 [a1] := (Keep.refl h0 [a1]).ext E86
  have K91 : Keep h0 h89 [a1] := K90.wr W89 (Or.inl (by simp))
  have f92 : Exa Z h89 a1 "java/util/ArrayList" := f88.wr W89
  have f93 : Fld Z h86 a1 "java/util/ArrayList" "size" "I" (.int (0 : Int32)) := P2.ext E86
  have f94 : Fld Z h89 a1 "java/util/ArrayList" "size" "I" (.int (0 : Int32)) := f93.other W89 (Or.inr (slot_ne (Or.inl (wd99 hw)) (Or.inl (wd67 hw)) (by decide) (t := .int) (t' := (.array (.object "java/lang/Object"))) (by decide) (by decide)))
  have gh95 : h0.size ≤ b86 := Nat.le_trans (Nat.le_refl _) (Nat.le_of_eq g86.symm)
  have ne96 : b86 ≠ a1 := (Nat.ne_of_gt (Nat.lt_of_lt_of_le (Nat.lt_of_lt_of_le P1.lt (Nat.le_refl _)) (Nat.le_of_eq g86.symm)))
  have f97 : Arv Z h89 b86 k86 (.object "java/lang/Object") (10 : Int32) [.null, .null, .null, .null, .null, .null, .null, .null, .null, .null] .null := Va86.other W89 ne96
  have f98 : Exa Z h89 b86 "[Ljava/lang/Object;" := A86.wr W89
  have f99 : Fld Z h86 a1 "java/util/AbstractList" "modCount" "I" (.int mc) := Pmc.ext E86
  have f100 : Fld Z h89 a1 "java/util/AbstractList" "modCount" "I" (.int mc) := f99.other W89 (Or.inr (slot_ne (Or.inl (wd64 hw)) (Or.inl (wd67 hw)) (by decide) (t := .int) (t' := (.array (.object "java/lang/Object"))) (by decide) (by decide)))
  refine endP X89 hlk (fun h => by rw [hret] at h; cases h) (lastA X89 hx hret rfl rfl rfl (hb hby d_jdk_38m6_59)) ?_ (by decide) (by decide)
  rw [e89]
  exact ⟨b86, k86, rfl, N89, K91, f92, f94, Fw89, gh95, f97, f98, O86, f100⟩
theorem d_jdk_38m7_0 : decode jdk_38_method_7_code 0 = .ok (.aload_n 0, 1) := by decide +kernel
theorem d_jdk_38m7_1 : decode jdk_38_method_7_code 1 = .ok (.aload_n 0, 1) := by decide +kernel
theorem d_jdk_38m7_2 : decode jdk_38_method_7_code 2 = .ok (.getfield 48, 3) := by decide +kernel
theorem wd98 {a0 : Array Value} {Z : State} (hw : HW a0 Z) : ((Jvm.Cond.fieldLink "java/util/ArrayList" (48 : Nat) "java/util/ArrayList" "size" "I") : Jvm.Cond).before a0 Z = true := hw _ (List.mem_of_getElem? (i := 98) rfl)
theorem d_jdk_38m7_5 : decode jdk_38_method_7_code 5 = .ok (.iconst 1, 1) := by decide +kernel
theorem d_jdk_38m7_6 : decode jdk_38_method_7_code 6 = .ok (.iadd, 1) := by decide +kernel
theorem d_jdk_38m7_7 : decode jdk_38_method_7_code 7 = .ok (.invokevirtual 69, 3) := by decide +kernel
theorem wd202 {a0 : Array Value} {Z : State} (hw : HW a0 Z) : ((Jvm.Cond.code ({ cls := "java/util/ArrayList", name := "grow", desc := "(I)[Ljava/lang/Object;" } : Jvm.MethodName) jdk_38_method_6_code (4 : Nat) (Option.some (Jvm.ClassFile.FieldType.array (Jvm.ClassFile.FieldType.object "java/lang/Object")))) : Jvm.Cond).before a0 Z = true := hw _ (List.mem_of_getElem? (i := 202) rfl)
theorem wd46 {a0 : Array Value} {Z : State} (hw : HW a0 Z) : ((Jvm.Cond.initialized "java/util/ArrayList") : Jvm.Cond).before a0 Z = true := hw _ (List.mem_of_getElem? (i := 46) rfl)
theorem pd3 : parseMethodDescriptor "(I)[Ljava/lang/Object;" = some ⟨[.int], some (.array (.object "java/lang/Object"))⟩ := by decide +kernel
theorem wd198 {a0 : Array Value} {Z : State} (hw : HW a0 Z) : ((Jvm.Cond.methodLink "java/util/ArrayList" (69 : Nat) ({ cls := "java/util/ArrayList", name := "grow", desc := "(I)[Ljava/lang/Object;" } : Jvm.MethodName)) : Jvm.Cond).before a0 Z = true := hw _ (List.mem_of_getElem? (i := 198) rfl)
theorem wd199 {a0 : Array Value} {Z : State} (hw : HW a0 Z) : ((Jvm.Cond.instanceMethod ({ cls := "java/util/ArrayList", name := "grow", desc := "(I)[Ljava/lang/Object;" } : Jvm.MethodName)) : Jvm.Cond).before a0 Z = true := hw _ (List.mem_of_getElem? (i := 199) rfl)
theorem wd201 {a0 : Array Value} {Z : State} (hw : HW a0 Z) : ((Jvm.Cond.selects "java/util/ArrayList" ({ cls := "java/util/ArrayList", name := "grow", desc := "(I)[Ljava/lang/Object;" } : Jvm.MethodName) ({ cls := "java/util/ArrayList", name := "grow", desc := "(I)[Ljava/lang/Object;" } : Jvm.MethodName)) : Jvm.Cond).before a0 Z = true := hw _ (List.mem_of_getElem? (i := 201) rfl)
theorem wd200 {a0 : Array Value} {Z : State} (hw : HW a0 Z) : ((Jvm.Cond.privateMethod ({ cls := "java/util/ArrayList", name := "grow", desc := "(I)[Ljava/lang/Object;" } : Jvm.MethodName)) : Jvm.Cond).before a0 Z = true := hw _ (List.mem_of_getElem? (i := 200) rfl)
theorem d_jdk_38m7_10 : decode jdk_38_method_7_code 10 = .ok (.areturn, 1) := by decide +kernel
def Q_grow (Z : State) (zC : Int32) (aE : Addr) (aD : Addr) (aM : Addr) (mO : Addr) (a1 : Addr) (dK : ClassId) (dL : List Value) (mc : Int32) (h0 : Heap) (v : Option Value) (h : Heap) (L : List Loc) : Prop := ∃ (r : Addr), ∃ (kr : ClassId), v = some (.ref r) ∧ Fr Z.heap.size L ∧ Keep h0 h [a1] ∧ Exa Z h a1 "java/util/ArrayList" ∧ Fld Z h a1 "java/util/ArrayList" "size" "I" (.int (0 : Int32)) ∧ Fld Z h a1 "java/util/ArrayList" "elementData" "[Ljava/lang/Object;" (.ref r) ∧ h0.size ≤ r ∧ Arv Z h r kr (.object "java/lang/Object") (10 : Int32) [.null, .null, .null, .null, .null, .null, .null, .null, .null, .null] .null ∧ Exa Z h r "[Ljava/lang/Object;" ∧ Ovr Z kr "java/lang/Object" ∧ Fld Z h a1 "java/util/AbstractList" "modCount" "I" (.int mc)
theorem rm_grow (l : Launch) (Z : State) (a0 : Array Value) (hw : HW a0 Z) (zC : Int32) (SC : tSC Z zC) (PC : ¬ zC = (0 : Int32)) (aE : Addr) (SE : tSE Z aE) (aD : Addr) (SD : tSD Z aD) (aM : Addr) (SM : tSM Z aM) (mO : Addr) (MO : tMO Z mO) (a1 : Addr) (dK : ClassId) (dL : List Value) (mc : Int32) (h0 : Heap) (O0 : Old Z Z.heap.size h0) (P1 : Exa Z h0 a1 "java/util/ArrayList") (P2 : Fld Z h0 a1 "java/util/ArrayList" "size" "I" (.int (0 : Int32))) (P3 : Fld Z h0 a1 "java/util/ArrayList" "elementData" "[Ljava/lang/Object;" (.ref aD)) (P4 : Z.heap.size ≤ a1) (PD1 : Exa Z h0 aD "[Ljava/lang/Object;") (PD2 : Arv Z h0 aD dK (.object "java/lang/Object") (0 : Int32) dL .null) (Pmc : Fld Z h0 a1 "java/util/AbstractList" "modCount" "I" (.int mc)) :
    Con l Z (⟨"java/util/ArrayList", "grow", "()[Ljava/lang/Object;"⟩ : MethodName) jdk_38_method_7_code 1 (some (.array (.object "java/lang/Object"))) ({ frames := 2, cells := 1, slots := 10, locals := 29 } : Room) #[(.ref a1)] h0 (Q_grow Z zC aE aD aM mO a1 dK dL mc h0) := by
  refine Con.intro (plainFor_of_name pn4) ?_
  intro p e s m below meth c T0 X0 hx hby hml hown0 hnm hret hlk hZ0 e0
  have N0 := Fr.nil Z.heap.size
  refine castGo (g' := mkF m 0 #[.val (.ref a1)] []) (by first | rfl | (simp [entryFrame, mkF, argsToLocals, Value.category]; done)) ?_
  show Go _ _ _ _ (T0.setTop (mkF m 0 #[.val (.ref a1)] []))
  refine aL X0 hx (hb hby d_jdk_38m7_0) (q := 1) rfl rfl rfl ?_
  refine aL X0 hx (hb hby d_jdk_38m7_1) (q := 2) rfl rfl rfl ?_
  refine g_getF X0 hx hZ0 hown0 (host := "") (Or.inl (wd98 hw)) Via.refl P2 e0 (hb hby d_jdk_38m7_2) (q := 5) rfl ?_
  intro T101 X101 e101
  refine cI X101 hx (hb hby d_jdk_38m7_5) (q := 6) rfl (z := (1 : Int32)) rfl ?_
  refine g_iadd X101 hx (hb hby d_jdk_38m7_6) (q := 7) rfl (z := (1 : Int32)) (by decide) ?_
  refine g_pv X101 hx hZ0 hown0 (wd198 hw) (wd199 hw) (wd201 hw) (wd200 hw) (wd202 hw) (by decide) P1 e101 (Con.back (W := 0) (rm_growI l Z a0 hw zC SC PC aE SE aD SD aM SM mO MO a1 dK dL mc h0 O0 P1 P2 P3 P4 PD1 PD2 Pmc) hZ0 (wd202 hw) (wd46 hw) (by decide) (by decide)) (by rw [hml]; rfl) (lenOf pd3 rfl) rfl (Nat.le_of_eq rfl) (hb hby d_jdk_38m7_7) (q := 10) rfl (by decide) (by decide) ?_
  intro v102 T102 L102 X102 Q102
  obtain ⟨r_102, kr_102, rfl, Nq102, K102q, q102_0, q102_1, q102_2, q102_3, q102_4, q102_5, q102_6, q102_7⟩ := Q102
  have N102 := Fr.app N0 Nq102
  show Go _ _ _ _ (T102.setTop (mkF m 10 #[.val (.ref a1)] [(.ref r_102)]))
  have K103 : Keep h0 T102.heap [a1] := (Keep.refl h0 [a1]).trans K102q (allS (Or.inl (by simp)) all0)
  have gh104 : h0.size ≤ r_102 := Nat.le_trans (Nat.le_refl _) q102_3
  refine endP X102 hlk (fun h => by rw [hret] at h; cases h) (lastA X102 hx hret rfl rfl rfl (hb hby d_jdk_38m7_10)) ?_ (by decide) (by decide)
  exact ⟨r_102, kr_102, rfl, N102, K103, q102_0, q102_1, q102_2, gh104, q102_4, q102_5, q102_6, q102_7⟩
theorem d_jdk_38m24_0 : decode jdk_38_method_24_code 0 = .ok (.iload_n 3, 1) := by decide +kernel
theorem d_jdk_38m24_1 : decode jdk_38_method_24_code 1 = .ok (.aload_n 2, 1) := by decide +kernel
theorem d_jdk_38m24_2 : decode jdk_38_method_24_code 2 = .ok (.arraylength, 1) := by decide +kernel
theorem d_jdk_38m24_3 : decode jdk_38_method_24_code 3 = .ok (.if_icmp .ne 8, 3) := by decide +kernel
theorem d_jdk_38m24_6 : decode jdk_38_method_24_code 6 = .ok (.aload_n 0, 1) := by decide +kernel
theorem d_jdk_38m24_7 : decode jdk_38_method_24_code 7 = .ok (.invokevirtual 129, 3) := by decide +kernel
theorem wd197 {a0 : Array Value} {Z : State} (hw : HW a0 Z) : ((Jvm.Cond.code ({ cls := "java/util/ArrayList", name := "grow", desc := "()[Ljava/lang/Object;" } : Jvm.MethodName) jdk_38_method_7_code (1 : Nat) (Option.some (Jvm.ClassFile.FieldType.array (Jvm.ClassFile.FieldType.object "java/lang/Object")))) : Jvm.Cond).before a0 Z = true := hw _ (List.mem_of_getElem? (i := 197) rfl)
theorem pd4 : parseMethodDescriptor "()[Ljava/lang/Object;" = some ⟨[], some (.array (.object "java/lang/Object"))⟩ := by decide +kernel
theorem wd193 {a0 : Array Value} {Z : State} (hw : HW a0 Z) : ((Jvm.Cond.methodLink "java/util/ArrayList" (129 : Nat) ({ cls := "java/util/ArrayList", name := "grow", desc := "()[Ljava/lang/Object;" } : Jvm.MethodName)) : Jvm.Cond).before a0 Z = true := hw _ (List.mem_of_getElem? (i := 193) rfl)
theorem wd194 {a0 : Array Value} {Z : State} (hw : HW a0 Z) : ((Jvm.Cond.instanceMethod ({ cls := "java/util/ArrayList", name := "grow", desc := "()[Ljava/lang/Object;" } : Jvm.MethodName)) : Jvm.Cond).before a0 Z = true := hw _ (List.mem_of_getElem? (i := 194) rfl)
theorem wd196 {a0 : Array Value} {Z : State} (hw : HW a0 Z) : ((Jvm.Cond.selects "java/util/ArrayList" ({ cls := "java/util/ArrayList", name := "grow", desc := "()[Ljava/lang/Object;" } : Jvm.MethodName) ({ cls := "java/util/ArrayList", name := "grow", desc := "()[Ljava/lang/Object;" } : Jvm.MethodName)) : Jvm.Cond).before a0 Z = true := hw _ (List.mem_of_getElem? (i := 196) rfl)
theorem wd195 {a0 : Array Value} {Z : State} (hw : HW a0 Z) : ((Jvm.Cond.privateMethod ({ cls := "java/util/ArrayList", name := "grow", desc := "()[Ljava/lang/Object;" } : Jvm.MethodName)) : Jvm.Cond).before a0 Z = true := hw _ (List.mem_of_getElem? (i := 195) rfl)
theorem d_jdk_38m24_10 : decode jdk_38_method_24_code 10 = .ok (.astore_n 2, 1) := by decide +kernel
theorem d_jdk_38m24_11 : decode jdk_38_method_24_code 11 = .ok (.aload_n 2, 1) := by decide +kernel
theorem d_jdk_38m24_12 : decode jdk_38_method_24_code 12 = .ok (.iload_n 3, 1) := by decide +kernel
theorem d_jdk_38m24_13 : decode jdk_38_method_24_code 13 = .ok (.aload_n 1, 1) := by decide +kernel
theorem d_jdk_38m24_14 : decode jdk_38_method_24_code 14 = .ok (.aastore, 1) := by decide +kernel
theorem wd209 {a0 : Array Value} {Z : State} (hw : HW a0 Z) : ((Jvm.Cond.castable "com/example/quaymark/quaymark/Review$LeftOut" "java/lang/Object") : Jvm.Cond).before a0 Z = true := hw _ (List.mem_of_getElem? (i := 209) rfl)
theorem d_jdk_38m24_15 : decode jdk_38_method_24_code 15 = .ok (.aload_n 0, 1) := by decide +kernel
theorem d_jdk_38m24_16 : decode jdk_38_method_24_code 16 = .ok (.iload_n 3, 1) := by decide +kernel
theorem d_jdk_38m24_17 : decode jdk_38_method_24_code 17 = .ok (.iconst 1, 1) := by decide +kernel
theorem d_jdk_38m24_18 : decode jdk_38_method_24_code 18 = .ok (.iadd, 1) := by decide +kernel
theorem d_jdk_38m24_19 : decode jdk_38_method_24_code 19 = .ok (.putfield 48, 3) := by decide +kernel
theorem d_jdk_38m24_22 : decode jdk_38_method_24_code 22 = .ok (.return_, 1) := by decide +kernel
def Q_add3a (Z : State) (zC : Int32) (aE : Addr) (aD : Addr) (aM : Addr) (mO : Addr) (a1 : Addr) (a2 : Addr) (dK : ClassId) (dL : List Value) (mc : Int32) (h0 : Heap) (v : Option Value) (h : Heap) (L : List Loc) : Prop := ∃ (r : Addr), ∃ (kr : ClassId), v = none ∧ Fr Z.heap.size L ∧ Keep h0 h [a1] ∧ Exa Z h a1 "java/util/ArrayList" ∧ Fld Z h a1 "java/util/ArrayList" "size" "I" (.int (1 : Int32)) ∧ Fld Z h a1 "java/util/ArrayList" "elementData" "[Ljava/lang/Object;" (.ref r) ∧ h0.size ≤ r ∧ Arv Z h r kr (.object "java/lang/Object") (10 : Int32) [(.ref a2), .null, .null, .null, .null, .null, .null, .null, .null, .null] .null ∧ Exa Z h r "[Ljava/lang/Object;" ∧ Ovr Z kr "java/lang/Object" ∧ Fld Z h a1 "java/util/AbstractList" "modCount" "I" (.int mc)
theorem rm_add3a (l : Launch) (Z : State) (a0 : Array Value) (hw : HW a0 Z) (zC : Int32) (SC : tSC Z zC) (PC : ¬ zC = (0 : Int32)) (aE : Addr) (SE : tSE Z aE) (aD : Addr) (SD : tSD Z aD) (aM : Addr) (SM : tSM Z aM) (mO : Addr) (MO : tMO Z mO) (a1 : Addr) (a2 : Addr) (dK : ClassId) (dL : List Value) (mc : Int32) (h0 : Heap) (O0 : Old Z Z.heap.size h0) (P1 : Exa Z h0 a1 "java/util/ArrayList") (P2 : Fld Z h0 a1 "java/util/ArrayList" "size" "I" (.int (0 : Int32))) (P3 : Fld Z h0 a1 "java/util/ArrayList" "elementData" "[Ljava/lang/Object;" (.ref aD)) (P4 : Z.heap.size ≤ a1) (PD1 : Exa Z h0 aD "[Ljava/lang/Object;") (PD2 : Arv Z h0 aD dK (.object "java/lang/Object") (0 : Int32) dL .null) (Pmc : Fld Z h0 a1 "java/util/AbstractList" "modCount" "I" (.int mc)) (P6 : Exa Z h0 a2 "com/example/quaymark/quaymark/Review$LeftOut") :
    Con l Z (⟨"java/util/ArrayList", "add", "(Ljava/lang/Object;[Ljava/lang/Object;I)V"⟩ : MethodName) jdk_38_method_24_code 4 none ({ frames := 3, cells := 1, slots := 10, locals := 41 } : Room) #[(.ref a1), (.ref a2), (.ref aD), (.int (0 : Int32))] h0 (Q_add3a Z zC aE aD aM mO a1 a2 dK dL mc h0) := by
  refine Con.intro (plainFor_of_name pn4) ?_
  intro p e s m below meth c T0 X0 hx hby hml hown0 hnm hret hlk hZ0 e0
  have N0 := Fr.nil Z.heap.size
  refine castGo (g' := mkF m 0 #[.val (.ref a1), .val (.ref a2), .val (.ref aD), .val (.int (0 : Int32))] []) (by first | rfl | (simp [entryFrame, mkF, argsToLocals, Value.category]; done)) ?_
  show Go _ _ _ _ (T0.setTop (mkF m 0 #[.val (.ref a1), .val (.ref a2), .val (.ref aD), .val (.int (0 : Int32))] []))
  refine iL X0 hx (hb hby d_jdk_38m24_0) (q := 1) rfl rfl ?_
  refine aL X0 hx (hb hby d_jdk_38m24_1) (q := 2) rfl rfl rfl ?_
  refine g_len X0 hx hZ0 PD2 e0 (hb hby d_jdk_38m24_2) (q := 3) rfl ?_
  refine icN X0 hx (hb hby d_jdk_38m24_3) (q := 6) rfl (by decide) ?_
  refine aL X0 hx (hb hby d_jdk_38m24_6) (q := 7) rfl rfl rfl ?_
  refine g_pv X0 hx hZ0 hown0 (wd193 hw) (wd194 hw) (wd196 hw) (wd195 hw) (wd197 hw) (by decide) P1 e0 (Con.back (W := 0) (rm_grow l Z a0 hw zC SC PC aE SE aD SD aM SM mO MO a1 dK dL mc h0 O0 P1 P2 P3 P4 PD1 PD2 Pmc) hZ0 (wd197 hw) (wd46 hw) (by decide) (by decide)) (by rw [hml]; rfl) (lenOf pd4 rfl) rfl (Nat.le_of_eq rfl) (hb hby d_jdk_38m24_7) (q := 10) rfl (by decide) (by decide) ?_
  intro v105 T105 L105 X105 Q105
  obtain ⟨r_105, kr_105, rfl, Nq105, K105q, q105_0, q105_1, q105_2, q105_3, q105_4, q105_5, q105_6, q105_7⟩ := Q105
  have N105 := Fr.app N0 Nq105
  show Go _ _ _ _ (T105.setTop (mkF m 10 #[.val (.ref a1), .val (.ref a2), .val (.ref aD), .val (.int (0 : Int32))] [(.ref r_105)]))
  refine sA X105 hx (hb hby d_jdk_38m24_10) (q := 11) rfl rfl (Ls' := #[.val (.ref a1), .val (.ref a2), .val (.ref r_105), .val (.int (0 : Int32))]) rfl ?_
  refine aL X105 hx (hb hby d_jdk_38m24_11) (q := 12) rfl rfl rfl ?_
  refine iL X105 hx (hb hby d_jdk_38m24_12) (q := 13) rfl rfl ?_
  refine aL X105 hx (hb hby d_jdk_38m24_13) (q := 14) rfl rfl rfl ?_
  have gz107 : Z.heap.size ≤ r_105 := Nat.le_trans O0.2.1 q105_3
  have f108 : Exa Z T105.heap a2 "com/example/quaymark/quaymark/Review$LeftOut" := P6.keep K105q
  refine g_stR X105 hx hZ0 q105_4 rfl (sto_arv q105_4 q105_6 (Ins.of_exa f108 (wd209 hw))) rfl (i := 0) (by decide) (by decide) (by decide) (Nat.le_of_ble_eq_true rfl) rfl (hb hby d_jdk_38m24_14) (q := 15) rfl ?_
  intro T106 h106 X106 e106 W106 V106
  have N106 := Fr.snoc X106 N105 gz107
  have Va106 : Arv Z h106 r_105 kr_105 (.object "java/lang/Object") (10 : Int32) [(.ref a2), .null, .null, .null, .null, .null, .null, .null, .null, .null] .null := V106
  refine aL X106 hx (hb hby d_jdk_38m24_15) (q := 16) rfl rfl rfl ?_
  refine iL X106 hx (hb hby d_jdk_38m24_16) (q := 17) rfl rfl ?_
  refine cI X106 hx (hb hby d_jdk_38m24_17) (q := 18) rfl (z := (1 : Int32)) rfl ?_
  refine g_iadd X106 hx (hb hby d_jdk_38m24_18) (q := 19) rfl (z := (1 : Int32)) (by decide) ?_
  have ne109 : a1 ≠ r_105 := (Nat.ne_of_lt (Nat.lt_of_lt_of_le (Nat.lt_of_lt_of_le P1.lt (Nat.le_refl _)) q105_3))
  have f110 : Fld Z h106 a1 "java/util/ArrayList" "size" "I" (.int (0 : Int32)) := q105_1.other W106 (Or.inl ne109)
  have f111 : Exa Z h106 a1 "java/util/ArrayList" := q105_0.wr W106
  refine g_putF X106 hx hZ0 hown0 (host := "") (Or.inl (wd98 hw)) Via.refl f110 f111 (Or.inl (wd99 hw)) (wd45 hw) (ty := .int) (by decide) rfl rfl e106 (hb hby d_jdk_38m24_19) (q := 22) rfl ?_
  intro T112 h112 X112 e112 W112
  have N112 := Fr.snoc X112 N106 P4
  have Fw112 : Fld Z h112 a1 "java/util/ArrayList" "size" "I" (.int (1 : Int32)) := f110.same W112
  have K113 : Keep h0 T105.heap [a1] := (Keep.refl h0 [a1]).trans K105q (allS (Or.inl (by simp)) all0)
  have gh114 : h0.size ≤ r_105 := Nat.le_trans (Nat.le_refl _) q105_3
  have K115 : Keep h0 h106 [a1] := K113.wr W106 (Or.inr gh114)
  have K116 : Keep h0 h112 [a1] := K115.wr W112 (Or.inl (by simp))
  have f117 : Exa Z h112 a1 "java/util/ArrayList" := f111.wr W112
  have f118 : Fld Z h106 a1 "java/util/ArrayList" "elementData" "[Ljava/lang/Object;" (.ref r_105) := q105_2.other W106 (Or.inl ne109)
  have f119 : Fld Z h112 a1 "java/util/ArrayList" "elementData" "[Ljava/lang/Object;" (.ref r_105) := f118.other W112 (Or.inr (slot_ne (Or.inl (wd67 hw)) (Or.inl (wd99 hw)) (by decide) (t := (.array (.object "java/lang/Object"))) (t' := .int) (by decide) (by decide)))
  have ne120 : r_105 ≠ a1 := (Ne.symm ne109)
  have f121 : Arv Z h112 r_105 kr_105 (.object "java/lang/Object") (10 : Int32) [(.ref a2), .null, .null, .null, .null, .null, .null, .null, .null, .null] .null := Va106.other W112 ne120
  have f122 : Exa Z h106 r_105 "[Ljava/lang/Object;" := q105_5.wr W106
  have f123 : Exa Z h112 r_105 "[Ljava/lang/Object;" := f122.wr W112
  have f124 : Fld Z h106 a1 "java/util/AbstractList" "modCount" "I" (.int mc) := q105_7.other W106 (Or.inl ne109)
  have f125 : Fld Z h112 a1 "java/util/AbstractList" "modCount" "I" (.int mc) := f124.other W112 (Or.inr (slot_ne (Or.inl (wd64 hw)) (Or.inl (wd99 hw)) (by decide) (t := .int) (t' := .int) (by decide) (by decide)))
  refine endP X112 hlk (fun _ => rfl) (lastV X112 hx hret (hb hby d_jdk_38m24_22)) ?_ (by decide) (by decide)
  rw [e112]
  exact ⟨r_105, kr_105, rfl, N112, K116, f117, Fw112, f119, gh114, f121, f123, q105_6, f125⟩
theorem d_jdk_38m25_0 : decode jdk_38_method_25_code 0 = .ok (.aload_n 0, 1) := by decide +kernel
theorem d_jdk_38m25_1 : decode jdk_38_method_25_code 1 = .ok (.dup, 1) := by decide +kernel
theorem d_jdk_38m25_2 : decode jdk_38_method_25_code 2 = .ok (.getfield 63, 3) := by decide +kernel
theorem wd186 {a0 : Array Value} {Z : State} (hw : HW a0 Z) : ((Jvm.Cond.fieldLink "java/util/ArrayList" (63 : Nat) "java/util/ArrayList" "modCount" "I") : Jvm.Cond).before a0 Z = true := hw _ (List.mem_of_getElem? (i := 186) rfl)
theorem wd187 {a0 : Array Value} {Z : State} (hw : HW a0 Z) : ((Jvm.Cond.sameField "java/util/ArrayList" "java/util/AbstractList" "modCount" "I") : Jvm.Cond).before a0 Z = true := hw _ (List.mem_of_getElem? (i := 187) rfl)
theorem d_jdk_38m25_5 : decode jdk_38_method_25_code 5 = .ok (.iconst 1, 1) := by decide +kernel
theorem d_jdk_38m25_6 : decode jdk_38_method_25_code 6 = .ok (.iadd, 1) := by decide +kernel
theorem d_jdk_38m25_7 : decode jdk_38_method_25_code 7 = .ok (.putfield 63, 3) := by decide +kernel
theorem d_jdk_38m25_10 : decode jdk_38_method_25_code 10 = .ok (.aload_n 0, 1) := by decide +kernel
theorem d_jdk_38m25_11 : decode jdk_38_method_25_code 11 = .ok (.aload_n 1, 1) := by decide +kernel
theorem d_jdk_38m25_12 : decode jdk_38_method_25_code 12 = .ok (.aload_n 0, 1) := by decide +kernel
theorem d_jdk_38m25_13 : decode jdk_38_method_25_code 13 = .ok (.getfield 9, 3) := by decide +kernel
theorem d_jdk_38m25_16 : decode jdk_38_method_25_code 16 = .ok (.aload_n 0, 1) := by decide +kernel
theorem d_jdk_38m25_17 : decode jdk_38_method_25_code 17 = .ok (.getfield 48, 3) := by decide +kernel
theorem d_jdk_38m25_20 : decode jdk_38_method_25_code 20 = .ok (.invokevirtual 131, 3) := by decide +kernel
theorem wd192 {a0 : Array Value} {Z : State} (hw : HW a0 Z) : ((Jvm.Cond.code ({ cls := "java/util/ArrayList", name := "add", desc := "(Ljava/lang/Object;[Ljava/lang/Object;I)V" } : Jvm.MethodName) jdk_38_method_24_code (4 : Nat) (Option.none : Option Jvm.ClassFile.FieldType)) : Jvm.Cond).before a0 Z = true := hw _ (List.mem_of_getElem? (i := 192) rfl)
theorem pd5 : parseMethodDescriptor "(Ljava/lang/Object;[Ljava/lang/Object;I)V" = some ⟨[(.object "java/lang/Object"), (.array (.object "java/lang/Object")), .int], none⟩ := by decide +kernel
theorem wd188 {a0 : Array Value} {Z : State} (hw : HW a0 Z) : ((Jvm.Cond.methodLink "java/util/ArrayList" (131 : Nat) ({ cls := "java/util/ArrayList", name := "add", desc := "(Ljava/lang/Object;[Ljava/lang/Object;I)V" } : Jvm.MethodName)) : Jvm.Cond).before a0 Z = true := hw _ (List.mem_of_getElem? (i := 188) rfl)
theorem wd189 {a0 : Array Value} {Z : State} (hw : HW a0 Z) : ((Jvm.Cond.instanceMethod ({ cls := "java/util/ArrayList", name := "add", desc := "(Ljava/lang/Object;[Ljava/lang/Object;I)V" } : Jvm.MethodName)) : Jvm.Cond).before a0 Z = true := hw _ (List.mem_of_getElem? (i := 189) rfl)
theorem wd191 {a0 : Array Value} {Z : State} (hw : HW a0 Z) : ((Jvm.Cond.selects "java/util/ArrayList" ({ cls := "java/util/ArrayList", name := "add", desc := "(Ljava/lang/Object;[Ljava/lang/Object;I)V" } : Jvm.MethodName) ({ cls := "java/util/ArrayList", name := "add", desc := "(Ljava/lang/Object;[Ljava/lang/Object;I)V" } : Jvm.MethodName)) : Jvm.Cond).before a0 Z = true := hw _ (List.mem_of_getElem? (i := 191) rfl)
theorem wd190 {a0 : Array Value} {Z : State} (hw : HW a0 Z) : ((Jvm.Cond.privateMethod ({ cls := "java/util/ArrayList", name := "add", desc := "(Ljava/lang/Object;[Ljava/lang/Object;I)V" } : Jvm.MethodName)) : Jvm.Cond).before a0 Z = true := hw _ (List.mem_of_getElem? (i := 190) rfl)
theorem d_jdk_38m25_23 : decode jdk_38_method_25_code 23 = .ok (.iconst 1, 1) := by decide +kernel
theorem d_jdk_38m25_24 : decode jdk_38_method_25_code 24 = .ok (.ireturn, 1) := by decide +kernel
def Q_add1a (Z : State) (zC : Int32) (aE : Addr) (aD : Addr) (aM : Addr) (mO : Addr) (a1 : Addr) (a2 : Addr) (dK : ClassId) (dL : List Value) (h0 : Heap) (v : Option Value) (h : Heap) (L : List Loc) : Prop := ∃ (r : Addr), ∃ (kr : ClassId), v = some (.int (1 : Int32)) ∧ Fr Z.heap.size L ∧ Keep h0 h [a1] ∧ Exa Z h a1 "java/util/ArrayList" ∧ Fld Z h a1 "java/util/ArrayList" "size" "I" (.int (1 : Int32)) ∧ Fld Z h a1 "java/util/ArrayList" "elementData" "[Ljava/lang/Object;" (.ref r) ∧ h0.size ≤ r ∧ Arv Z h r kr (.object "java/lang/Object") (10 : Int32) [(.ref a2), .null, .null, .null, .null, .null, .null, .null, .null, .null] .null ∧ Exa Z h r "[Ljava/lang/Object;" ∧ Ovr Z kr "java/lang/Object" ∧ Fld Z h a1 "java/util/AbstractList" "modCount" "I" (.int (1 : Int32))
theorem rm_add1a (l : Launch) (Z : State) (a0 : Array Value) (hw : HW a0 Z) (zC : Int32) (SC : tSC Z zC) (PC : ¬ zC = (0 : Int32)) (aE : Addr) (SE : tSE Z aE) (aD : Addr) (SD : tSD Z aD) (aM : Addr) (SM : tSM Z aM) (mO : Addr) (MO : tMO Z mO) (a1 : Addr) (a2 : Addr) (dK : ClassId) (dL : List Value) (h0 : Heap) (O0 : Old Z Z.heap.size h0) (P1 : Exa Z h0 a1 "java/util/ArrayList") (P2 : Fld Z h0 a1 "java/util/ArrayList" "size" "I" (.int (0 : Int32))) (P3 : Fld Z h0 a1 "java/util/ArrayList" "elementData" "[Ljava/lang/Object;" (.ref aD)) (P4 : Z.heap.size ≤ a1) (PD1 : Exa Z h0 aD "[Ljava/lang/Object;") (PD2 : Arv Z h0 aD dK (.object "java/lang/Object") (0 : Int32) dL .null) (P6 : Exa Z h0 a2 "com/example/quaymark/quaymark/Review$LeftOut") (P7 : Fld Z h0 a1 "java/util/AbstractList" "modCount" "I" (.int (0 : Int32))) :
    Con l Z (⟨"java/util/ArrayList", "add", "(Ljava/lang/Object;)Z"⟩ : MethodName) jdk_38_method_25_code 2 (some .boolean) ({ frames := 4, cells := 1, slots := 10, locals := 56 } : Room) #[(.ref a1), (.ref a2)] h0 (Q_add1a Z zC aE aD aM mO a1 a2 dK dL h0) := by
  refine Con.intro (plainFor_of_name pn4) ?_
  intro p e s m below meth c T0 X0 hx hby hml hown0 hnm hret hlk hZ0 e0
  have N0 := Fr.nil Z.heap.size
  refine castGo (g' := mkF m 0 #[.val (.ref a1), .val (.ref a2)] []) (by first | rfl | (simp [entryFrame, mkF, argsToLocals, Value.category]; done)) ?_
  show Go _ _ _ _ (T0.setTop (mkF m 0 #[.val (.ref a1), .val (.ref a2)] []))
  refine aL X0 hx (hb hby d_jdk_38m25_0) (q := 1) rfl rfl rfl ?_
  refine g_dup X0 hx (hb hby d_jdk_38m25_1) (q := 2) rfl rfl ?_
  refine g_getF X0 hx hZ0 hown0 (host := "") (Or.inl (wd186 hw)) (Via.of (wd187 hw)) P7 e0 (hb hby d_jdk_38m25_2) (q := 5) rfl ?_
  intro T126 X126 e126
  refine cI X126 hx (hb hby d_jdk_38m25_5) (q := 6) rfl (z := (1 : Int32)) rfl ?_
  refine g_iadd X126 hx (hb hby d_jdk_38m25_6) (q := 7) rfl (z := (1 : Int32)) (by decide) ?_
  refine g_putF X126 hx hZ0 hown0 (host := "") (Or.inl (wd186 hw)) (Via.of (wd187 hw)) P7 P1 (Or.inl (wd64 hw)) (wd45 hw) (ty := .int) (by decide) rfl rfl e126 (hb hby d_jdk_38m25_7) (q := 10) rfl ?_
  intro T127 h127 X127 e127 W127
  have N127 := Fr.snoc X127 N0 P4
  have Fw127 : Fld Z h127 a1 "java/util/AbstractList" "modCount" "I" (.int (1 : Int32)) := P7.same W127
  refine aL X127 hx (hb hby d_jdk_38m25_10) (q := 11) rfl rfl rfl ?_
  refine aL X127 hx (hb hby d_jdk_38m25_11) (q := 12) rfl rfl rfl ?_
  refine aL X127 hx (hb hby d_jdk_38m25_12) (q := 13) rfl rfl rfl ?_
  have f128 : Fld Z h127 a1 "java/util/ArrayList" "elementData" "[Ljava/lang/Object;" (.ref aD) := P3.other W127 (Or.inr (slot_ne (Or.inl (wd67 hw)) (Or.inl (wd64 hw)) (by decide) (t := (.array (.object "java/lang/Object"))) (t' := .int) (by decide) (by decide)))
  refine g_getF X127 hx hZ0 hown0 (host := "") (Or.inl (wd66 hw)) Via.refl f128 e127 (hb hby d_jdk_38m25_13) (q := 16) rfl ?_
  intro T129 X129 e129
  refine aL X129 hx (hb hby d_jdk_38m25_16) (q := 17) rfl rfl rfl ?_
  have f130 : Fld Z h127 a1 "java/util/ArrayList" "size" "I" (.int (0 : Int32)) := P2.other W127 (Or.inr (slot_ne (Or.inl (wd99 hw)) (Or.inl (wd64 hw)) (by decide) (t := .int) (t' := .int) (by decide) (by decide)))
  refine g_getF X129 hx hZ0 hown0 (host := "") (Or.inl (wd98 hw)) Via.refl f130 e129 (hb hby d_jdk_38m25_17) (q := 20) rfl ?_
  intro T131 X131 e131
  have f138 : Exa Z h127 a1 "java/util/ArrayList" := P1.wr W127
  have f139 : Exa Z h127 aD "[Ljava/lang/Object;" := PD1.wr W127
  have ne140 : aD ≠ a1 := (ne_exa PD1 P1 (by decide))
  have f141 : Arv Z h127 aD dK (.object "java/lang/Object") (0 : Int32) dL .null := PD2.other W127 ne140
  have f142 : Exa Z h127 a2 "com/example/quaymark/quaymark/Review$LeftOut" := P6.wr W127
  have f143 : Old Z Z.heap.size h127 := O0.wr W127 P4
  refine g_pv X131 hx hZ0 hown0 (wd188 hw) (wd189 hw) (wd191 hw) (wd190 hw) (wd192 hw) (by decide) f138 e131 (Con.back (W := 0) (rm_add3a l Z a0 hw zC SC PC aE SE aD SD aM SM mO MO a1 a2 dK dL (1 : Int32) h127 f143 f138 f130 f128 P4 f139 f141 Fw127 f142) hZ0 (wd192 hw) (wd46 hw) (by decide) (by decide)) (by rw [hml]; rfl) (lenOf pd5 rfl) rfl (Nat.le_of_eq rfl) (hb hby d_jdk_38m25_20) (q := 23) rfl (by decide) (by decide) ?_
  intro v137 T137 L137 X137 Q137
  obtain ⟨r_137, kr_137, rfl, Nq137, K137q, q137_0, q137_1, q137_2, q137_3, q137_4, q137_5, q137_6, q137_7⟩ := Q137
  have N137 := Fr.app N127 Nq137
  show Go _ _ _ _ (T137.setTop (mkF m 23 #[.val (.ref a1), .val (.ref a2)] []))
  refine cI X137 hx (hb hby d_jdk_38m25_23) (q := 24) rfl (z := (1 : Int32)) rfl ?_
  have K144 : Keep h0 h127 [a1] := (Keep.refl h0 [a1]).wr W127 (Or.inl (by simp))
  have K145 : Keep h0 T137.heap [a1] := K144.trans K137q (allS (Or.inl (by simp)) all0)
  have le147 : (h0).size ≤ (h127).size := (Nat.le_of_eq (Wr.size W127).symm)
  have gh146 : h0.size ≤ r_137 := Nat.le_trans le147 q137_3
  refine endP X137 hlk (fun h => by rw [hret] at h; cases h) (lastN X137 hx (t := .boolean) (z' := (1 : Int32)) hret (by simp) (by decide) (hb hby d_jdk_38m25_24)) ?_ (by decide) (by decide)
  exact ⟨r_137, kr_137, rfl, N137, K145, q137_0, q137_1, q137_2, gh146, q137_4, q137_5, q137_6, q137_7⟩
def Q_add3b (Z : State) (zC : Int32) (aE : Addr) (aD : Addr) (aM : Addr) (mO : Addr) (a1 : Addr) (a2 : Addr) (a3 : Addr) (r : Addr) (kr : ClassId) (h0 : Heap) (v : Option Value) (h : Heap) (L : List Loc) : Prop := v = none ∧ Fr Z.heap.size L ∧ Keep h0 h [a1, r] ∧ Exa Z h a1 "java/util/ArrayList" ∧ Fld Z h a1 "java/util/ArrayList" "size" "I" (.int (2 : Int32)) ∧ Fld Z h a1 "java/util/ArrayList" "elementData" "[Ljava/lang/Object;" (.ref r) ∧ Arv Z h r kr (.object "java/lang/Object") (10 : Int32) [(.ref a2), (.ref a3), .null, .null, .null, .null, .null, .null, .null, .null] .null ∧ Exa Z h r "[Ljava/lang/Object;"
theorem rm_add3b (l : Launch) (Z : State) (a0 : Array Value) (hw : HW a0 Z) (zC : Int32) (SC : tSC Z zC) (PC : ¬ zC = (0 : Int32)) (aE : Addr) (SE : tSE Z aE) (aD : Addr) (SD : tSD Z aD) (aM : Addr) (SM : tSM Z aM) (mO : Addr) (MO : tMO Z mO) (a1 : Addr) (a2 : Addr) (a3 : Addr) (r : Addr) (kr : ClassId) (h0 : Heap) (O0 : Old Z Z.heap.size h0) (P1 : Exa Z h0 a1 "java/util/ArrayList") (P2 : Fld Z h0 a1 "java/util/ArrayList" "size" "I" (.int (1 : Int32))) (P3 : Fld Z h0 a1 "java/util/ArrayList" "elementData" "[Ljava/lang/Object;" (.ref r)) (P4 : Z.heap.size ≤ a1) (P8 : Arv Z h0 r kr (.object "java/lang/Object") (10 : Int32) [(.ref a2), .null, .null, .null, .null, .null, .null, .null, .null, .null] .null) (P9 : Exa Z h0 r "[Ljava/lang/Object;") (P10 : Ovr Z kr "java/lang/Object") (P11 : Z.heap.size ≤ r) (P6 : Exa Z h0 a3 "com/example/quaymark/quaymark/Review$LeftOut") :
    Con l Z (⟨"java/util/ArrayList", "add", "(Ljava/lang/Object;[Ljava/lang/Object;I)V"⟩ : MethodName) jdk_38_method_24_code 4 none ({ frames := 0, cells := 0, slots := 0, locals := 0 } : Room) #[(.ref a1), (.ref a3), (.ref r), (.int (1 : Int32))] h0 (Q_add3b Z zC aE aD aM mO a1 a2 a3 r kr h0) := by
  refine Con.intro (plainFor_of_name pn4) ?_
  intro p e s m below meth c T0 X0 hx hby hml hown0 hnm hret hlk hZ0 e0
  have N0 := Fr.nil Z.heap.size
  refine castGo (g' := mkF m 0 #[.val (.ref a1), .val (.ref a3), .val (.ref r), .val (.int (1 : Int32))] []) (by first | rfl | (simp [entryFrame, mkF, argsToLocals, Value.category]; done)) ?_
  show Go _ _ _ _ (T0.setTop (mkF m 0 #[.val (.ref a1), .val (.ref a3), .val (.ref r), .val (.int (1 : Int32))] []))
  refine iL X0 hx (hb hby d_jdk_38m24_0) (q := 1) rfl rfl ?_
  refine aL X0 hx (hb hby d_jdk_38m24_1) (q := 2) rfl rfl rfl ?_
  refine g_len X0 hx hZ0 P8 e0 (hb hby d_jdk_38m24_2) (q := 3) rfl ?_
  refine icY X0 hx (hb hby d_jdk_38m24_3) (q := 11) (by decide) (by decide) (by decide) ?_
  refine aL X0 hx (hb hby d_jdk_38m24_11) (q := 12) rfl rfl rfl ?_
  refine iL X0 hx (hb hby d_jdk_38m24_12) (q := 13) rfl rfl ?_
  refine aL X0 hx (hb hby d_jdk_38m24_13) (q := 14) rfl rfl rfl ?_
  refine g_stR X0 hx hZ0 P8 rfl (sto_arv P8 P10 (Ins.of_exa P6 (wd209 hw))) rfl (i := 1) (by decide) (by decide) (by decide) (Nat.le_of_ble_eq_true rfl) e0 (hb hby d_jdk_38m24_14) (q := 15) rfl ?_
  intro T148 h148 X148 e148 W148 V148
  have N148 := Fr.snoc X148 N0 P11
  have Va148 : Arv Z h148 r kr (.object "java/lang/Object") (10 : Int32) [(.ref a2), (.ref a3), .null, .null, .null, .null, .null, .null, .null, .null] .null := V148
  refine aL X148 hx (hb hby d_jdk_38m24_15) (q := 16) rfl rfl rfl ?_
  refine iL X148 hx (hb hby d_jdk_38m24_16) (q := 17) rfl rfl ?_
  refine cI X148 hx (hb hby d_jdk_38m24_17) (q := 18) rfl (z := (1 : Int32)) rfl ?_
  refine g_iadd X148 hx (hb hby d_jdk_38m24_18) (q := 19) rfl (z := (2 : Int32)) (by decide) ?_
  have ne149 : a1 ≠ r := (ne_exa P1 P9 (by decide))
  have f150 : Fld Z h148 a1 "java/util/ArrayList" "size" "I" (.int (1 : Int32)) := P2.other W148 (Or.inl ne149)
  have f151 : Exa Z h148 a1 "java/util/ArrayList" := P1.wr W148
  refine g_putF X148 hx hZ0 hown0 (host := "") (Or.inl (wd98 hw)) Via.refl f150 f151 (Or.inl (wd99 hw)) (wd45 hw) (ty := .int) (by decide) rfl rfl e148 (hb hby d_jdk_38m24_19) (q := 22) rfl ?_
  intro T152 h152 X152 e152 W152
  have N152 := Fr.snoc X152 N148 P4
  have Fw152 : Fld Z h152 a1 "java/util/ArrayList" "size" "I" (.int (2 : Int32)) := f150.same W152
  have K153 : Keep h0 h148 [a1, r] := (Keep.refl h0 [a1, r]).wr W148 (Or.inl (by simp))
  have K154 : Keep h0 h152 [a1, r] := K153.wr W152 (Or.inl (by simp))
  have f155 : Exa Z h152 a1 "java/util/ArrayList" := f151.wr W152
  have f156 : Fld Z h148 a1 "java/util/ArrayList" "elementData" "[Ljava/lang/Object;" (.ref r) := P3.other W148 (Or.inl ne149)
  have f157 : Fld Z h152 a1 "java/util/ArrayList" "elementData" "[Ljava/lang/Object;" (.ref r) := f156.other W152 (Or.inr (slot_ne (Or.inl (wd67 hw)) (Or.inl (wd99 hw)) (by decide) (t := (.array (.object "java/lang/Object"))) (t' := .int) (by decide) (by decide)))
  have ne158 : r ≠ a1 := (Ne.symm ne149)
  have f159 : Arv Z h152 r kr (.object "java/lang/Object") (10 : Int32) [(.ref a2), (.ref a3), .null, .null, .null, .null, .null, .null, .null, .null] .null := Va148.other W152 ne158
  have f160 : Exa Z h148 r "[Ljava/lang/Object;" := P9.wr W148
  have f161 : Exa Z h152 r "[Ljava/lang/Object;" := f160.wr W152
  refine endP X152 hlk (fun _ => rfl) (lastV X152 hx hret (hb hby d_jdk_38m24_22)) ?_ (by decide) (by decide)
  rw [e152]
  exact ⟨rfl, N152, K154, f155, Fw152, f157, f159, f161⟩
def Q_add1b (Z : State) (zC : Int32) (aE : Addr) (aD : Addr) (aM : Addr) (mO : Addr) (a1 : Addr) (a2 : Addr) (a3 : Addr) (r : Addr) (kr : ClassId) (h0 : Heap) (v : Option Value) (h : Heap) (L : List Loc) : Prop := v = some (.int (1 : Int32)) ∧ Fr Z.heap.size L ∧ Keep h0 h [a1, r] ∧ Exa Z h a1 "java/util/ArrayList" ∧ Fld Z h a1 "java/util/ArrayList" "size" "I" (.int (2 : Int32)) ∧ Fld Z h a1 "java/util/ArrayList" "elementData" "[Ljava/lang/Object;" (.ref r) ∧ Arv Z h r kr (.object "java/lang/Object") (10 : Int32) [(.ref a2), (.ref a3), .null, .null, .null, .null, .null, .null, .null, .null] .null ∧ Exa Z h r "[Ljava/lang/Object;"
theorem rm_add1b (l : Launch) (Z : State) (a0 : Array Value) (hw : HW a0 Z) (zC : Int32) (SC : tSC Z zC) (PC : ¬ zC = (0 : Int32)) (aE : Addr) (SE : tSE Z aE) (aD : Addr) (SD : tSD Z aD) (aM : Addr) (SM : tSM Z aM) (mO : Addr) (MO : tMO Z mO) (a1 : Addr) (a2 : Addr) (a3 : Addr) (r : Addr) (kr : ClassId) (h0 : Heap) (O0 : Old Z Z.heap.size h0) (P1 : Exa Z h0 a1 "java/util/ArrayList") (P2 : Fld Z h0 a1 "java/util/ArrayList" "size" "I" (.int (1 : Int32))) (P3 : Fld Z h0 a1 "java/util/ArrayList" "elementData" "[Ljava/lang/Object;" (.ref r)) (P4 : Z.heap.size ≤ a1) (P8 : Arv Z h0 r kr (.object "java/lang/Object") (10 : Int32) [(.ref a2), .null, .null, .null, .null, .null, .null, .null, .null, .null] .null) (P9 : Exa Z h0 r "[Ljava/lang/Object;") (P10 : Ovr Z kr "java/lang/Object") (P11 : Z.heap.size ≤ r) (P6 : Exa Z h0 a3 "com/example/quaymark/quaymark/Review$LeftOut") (P7 : Fld Z h0 a1 "java/util/AbstractList" "modCount" "I" (.int (1 : Int32))) :
    Con l Z (⟨"java/util/ArrayList", "add", "(Ljava/lang/Object;)Z"⟩ : MethodName) jdk_38_method_25_code 2 (some .boolean) ({ frames := 1, cells := 0, slots := 0, locals := 15 } : Room) #[(.ref a1), (.ref a3)] h0 (Q_add1b Z zC aE aD aM mO a1 a2 a3 r kr h0) := by
  refine Con.intro (plainFor_of_name pn4) ?_
  intro p e s m below meth c T0 X0 hx hby hml hown0 hnm hret hlk hZ0 e0
  have N0 := Fr.nil Z.heap.size
  refine castGo (g' := mkF m 0 #[.val (.ref a1), .val (.ref a3)] []) (by first | rfl | (simp [entryFrame, mkF, argsToLocals, Value.category]; done)) ?_
  show Go _ _ _ _ (T0.setTop (mkF m 0 #[.val (.ref a1), .val (.ref a3)] []))
  refine aL X0 hx (hb hby d_jdk_38m25_0) (q := 1) rfl rfl rfl ?_
  refine g_dup X0 hx (hb hby d_jdk_38m25_1) (q := 2) rfl rfl ?_
  refine g_getF X0 hx hZ0 hown0 (host := "") (Or.inl (wd186 hw)) (Via.of (wd187 hw)) P7 e0 (hb hby d_jdk_38m25_2) (q := 5) rfl ?_
  intro T162 X162 e162
  refine cI X162 hx (hb hby d_jdk_38m25_5) (q := 6) rfl (z := (1 : Int32)) rfl ?_
  refine g_iadd X162 hx (hb hby d_jdk_38m25_6) (q := 7) rfl (z := (2 : Int32)) (by decide) ?_
  refine g_putF X162 hx hZ0 hown0 (host := "") (Or.inl (wd186 hw)) (Via.of (wd187 hw)) P7 P1 (Or.inl (wd64 hw)) (wd45 hw) (ty := .int) (by decide) rfl rfl e162 (hb hby d_jdk_38m25_7) (q := 10) rfl ?_
  intro T163 h163 X163 e163 W163
  have N163 := Fr.snoc X163 N0 P4
  have Fw163 : Fld Z h163 a1 "java/util/AbstractList" "modCount" "I" (.int (2 : Int32)) := P7.same W163
  refine aL X163 hx (hb hby d_jdk_38m25_10) (q := 11) rfl rfl rfl ?_
  refine aL X163 hx (hb hby d_jdk_38m25_11) (q := 12) rfl rfl rfl ?_
  refine aL X163 hx (hb hby d_jdk_38m25_12) (q := 13) rfl rfl rfl ?_
  have f164 : Fld Z h163 a1 "java/util/ArrayList" "elementData" "[Ljava/lang/Object;" (.ref r) := P3.other W163 (Or.inr (slot_ne (Or.inl (wd67 hw)) (Or.inl (wd64 hw)) (by decide) (t := (.array (.object "java/lang/Object"))) (t' := .int) (by decide) (by decide)))
  refine g_getF X163 hx hZ0 hown0 (host := "") (Or.inl (wd66 hw)) Via.refl f164 e163 (hb hby d_jdk_38m25_13) (q := 16) rfl ?_
  intro T165 X165 e165
  refine aL X165 hx (hb hby d_jdk_38m25_16) (q := 17) rfl rfl rfl ?_
  have f166 : Fld Z h163 a1 "java/util/ArrayList" "size" "I" (.int (1 : Int32)) := P2.other W163 (Or.inr (slot_ne (Or.inl (wd99 hw)) (Or.inl (wd64 hw)) (by decide) (t := .int) (t' := .int) (by decide) (by decide)))
  refine g_getF X165 hx hZ0 hown0 (host := "") (Or.inl (wd98 hw)) Via.refl f166 e165 (hb hby d_jdk_38m25_17) (q := 20) rfl ?_
  intro T167 X167 e167
  have f174 : Exa Z h163 a1 "java/util/ArrayList" := P1.wr W163
  have ne175 : r ≠ a1 := (ne_exa P9 P1 (by decide))
  have f176 : Arv Z h163 r kr (.object "java/lang/Object") (10 : Int32) [(.ref a2), .null, .null, .null, .null, .null, .null, .null, .null, .null] .null := P8.other W163 ne175
  have f177 : Exa Z h163 r "[Ljava/lang/Object;" := P9.wr W163
  have f178 : Exa Z h163 a3 "com/example/quaymark/quaymark/Review$LeftOut" := P6.wr W163
  have f179 : Old Z Z.heap.size h163 := O0.wr W163 P4
  refine g_pv X167 hx hZ0 hown0 (wd188 hw) (wd189 hw) (wd191 hw) (wd190 hw) (wd192 hw) (by decide) f174 e167 (Con.back (W := 0) (rm_add3b l Z a0 hw zC SC PC aE SE aD SD aM SM mO MO a1 a2 a3 r kr h163 f179 f174 f166 f164 P4 f176 f177 P10 P11 f178) hZ0 (wd192 hw) (wd46 hw) (by decide) (by decide)) (by rw [hml]; rfl) (lenOf pd5 rfl) rfl (Nat.le_of_eq rfl) (hb hby d_jdk_38m25_20) (q := 23) rfl (by decide) (by decide) ?_
  intro v173 T173 L173 X173 Q173
  obtain ⟨rfl, Nq173, K173q, q173_0, q173_1, q173_2, q173_3, q173_4⟩ := Q173
  have N173 := Fr.app N163 Nq173
  show Go _ _ _ _ (T173.setTop (mkF m 23 #[.val (.ref a1), .val (.ref a3)] []))
  refine cI X173 hx (hb hby d_jdk_38m25_23) (q := 24) rfl (z := (1 : Int32)) rfl ?_
  have K180 : Keep h0 h163 [a1, r] := (Keep.refl h0 [a1, r]).wr W163 (Or.inl (by simp))
  have K181 : Keep h0 T173.heap [a1, r] := K180.trans K173q (allS (Or.inl (by simp)) (allS (Or.inl (by simp)) all0))
  refine endP X173 hlk (fun h => by rw [hret] at h; cases h) (lastN X173 hx (t := .boolean) (z' := (1 : Int32)) hret (by simp) (by decide) (hb hby d_jdk_38m25_24)) ?_ (by decide) (by decide)
  exact ⟨rfl, N173, K181, q173_0, q173_1, q173_2, q173_3, q173_4⟩
theorem d_jdk_38m9_0 : decode jdk_38_method_9_code 0 = .ok (.aload_n 0, 1) := by decide +kernel
theorem d_jdk_38m9_1 : decode jdk_38_method_9_code 1 = .ok (.getfield 48, 3) := by decide +kernel
theorem d_jdk_38m9_4 : decode jdk_38_method_9_code 4 = .ok (.ifCond .ne 7, 3) := by decide +kernel
theorem d_jdk_38m9_7 : decode jdk_38_method_9_code 7 = .ok (.iconst 1, 1) := by decide +kernel
theorem d_jdk_38m9_8 : decode jdk_38_method_9_code 8 = .ok (.goto 4, 3) := by decide +kernel
theorem d_jdk_38m9_12 : decode jdk_38_method_9_code 12 = .ok (.ireturn, 1) := by decide +kernel
def Q_isempty0 (Z : State) (zC : Int32) (aE : Addr) (aD : Addr) (aM : Addr) (mO : Addr) (a1 : Addr) (h0 : Heap) (v : Option Value) (h : Heap) (L : List Loc) : Prop := v = some (.int (1 : Int32)) ∧ Fr Z.heap.size L ∧ h = h0
theorem rm_isempty0 (l : Launch) (Z : State) (a0 : Array Value) (hw : HW a0 Z) (zC : Int32) (SC : tSC Z zC) (PC : ¬ zC = (0 : Int32)) (aE : Addr) (SE : tSE Z aE) (aD : Addr) (SD : tSD Z aD) (aM : Addr) (SM : tSM Z aM) (mO : Addr) (MO : tMO Z mO) (a1 : Addr) (h0 : Heap) (O0 : Old Z Z.heap.size h0) (P1 : Fld Z h0 a1 "java/util/ArrayList" "size" "I" (.int (0 : Int32))) :
    Con l Z (⟨"java/util/ArrayList", "isEmpty", "()Z"⟩ : MethodName) jdk_38_method_9_code 1 (some .boolean) ({ frames := 0, cells := 0, slots := 0, locals := 0 } : Room) #[(.ref a1)] h0 (Q_isempty0 Z zC aE aD aM mO a1 h0) := by
  refine Con.intro (plainFor_of_name pn4) ?_
  intro p e s m below meth c T0 X0 hx hby hml hown0 hnm hret hlk hZ0 e0
  have N0 := Fr.nil Z.heap.size
  refine castGo (g' := mkF m 0 #[.val (.ref a1)] []) (by first | rfl | (simp [entryFrame, mkF, argsToLocals, Value.category]; done)) ?_
  show Go _ _ _ _ (T0.setTop (mkF m 0 #[.val (.ref a1)] []))
  refine aL X0 hx (hb hby d_jdk_38m9_0) (q := 1) rfl rfl rfl ?_
  refine g_getF X0 hx hZ0 hown0 (host := "") (Or.inl (wd98 hw)) Via.refl P1 e0 (hb hby d_jdk_38m9_1) (q := 4) rfl ?_
  intro T182 X182 e182
  refine ifN X182 hx (hb hby d_jdk_38m9_4) (q := 7) rfl (by decide) ?_
  refine cI X182 hx (hb hby d_jdk_38m9_7) (q := 8) rfl (z := (1 : Int32)) rfl ?_
  refine g_goto X182 hx (hb hby d_jdk_38m9_8) (q := 12) (by decide) (by decide) ?_
  refine endP X182 hlk (fun h => by rw [hret] at h; cases h) (lastN X182 hx (t := .boolean) (z' := (1 : Int32)) hret (by simp) (by decide) (hb hby d_jdk_38m9_12)) ?_ (by decide) (by decide)
  rw [e182]
  exact ⟨rfl, N0, rfl⟩
theorem d_jdk_38m9_11 : decode jdk_38_method_9_code 11 = .ok (.iconst 0, 1) := by decide +kernel
def Q_isempty1 (Z : State) (zC : Int32) (aE : Addr) (aD : Addr) (aM : Addr) (mO : Addr) (a1 : Addr) (h0 : Heap) (v : Option Value) (h : Heap) (L : List Loc) : Prop := v = some (.int (0 : Int32)) ∧ Fr Z.heap.size L ∧ h = h0
theorem rm_isempty1 (l : Launch) (Z : State) (a0 : Array Value) (hw : HW a0 Z) (zC : Int32) (SC : tSC Z zC) (PC : ¬ zC = (0 : Int32)) (aE : Addr) (SE : tSE Z aE) (aD : Addr) (SD : tSD Z aD) (aM : Addr) (SM : tSM Z aM) (mO : Addr) (MO : tMO Z mO) (a1 : Addr) (h0 : Heap) (O0 : Old Z Z.heap.size h0) (P1 : Fld Z h0 a1 "java/util/ArrayList" "size" "I" (.int (1 : Int32))) :
    Con l Z (⟨"java/util/ArrayList", "isEmpty", "()Z"⟩ : MethodName) jdk_38_method_9_code 1 (some .boolean) ({ frames := 0, cells := 0, slots := 0, locals := 0 } : Room) #[(.ref a1)] h0 (Q_isempty1 Z zC aE aD aM mO a1 h0) := by
  refine Con.intro (plainFor_of_name pn4) ?_
  intro p e s m below meth c T0 X0 hx hby hml hown0 hnm hret hlk hZ0 e0
  have N0 := Fr.nil Z.heap.size
  refine castGo (g' := mkF m 0 #[.val (.ref a1)] []) (by first | rfl | (simp [entryFrame, mkF, argsToLocals, Value.category]; done)) ?_
  show Go _ _ _ _ (T0.setTop (mkF m 0 #[.val (.ref a1)] []))
  refine aL X0 hx (hb hby d_jdk_38m9_0) (q := 1) rfl rfl rfl ?_
  refine g_getF X0 hx hZ0 hown0 (host := "") (Or.inl (wd98 hw)) Via.refl P1 e0 (hb hby d_jdk_38m9_1) (q := 4) rfl ?_
  intro T183 X183 e183
  refine ifY X183 hx (hb hby d_jdk_38m9_4) (q := 11) (by decide) (by decide) (by decide) ?_
  refine cI X183 hx (hb hby d_jdk_38m9_11) (q := 12) rfl (z := (0 : Int32)) rfl ?_
  refine endP X183 hlk (fun h => by rw [hret] at h; cases h) (lastN X183 hx (t := .boolean) (z' := (0 : Int32)) hret (by simp) (by decide) (hb hby d_jdk_38m9_12)) ?_ (by decide) (by decide)
  rw [e183]
  exact ⟨rfl, N0, rfl⟩
def Q_isempty2 (Z : State) (zC : Int32) (aE : Addr) (aD : Addr) (aM : Addr) (mO : Addr) (a1 : Addr) (h0 : Heap) (v : Option Value) (h : Heap) (L : List Loc) : Prop := v = some (.int (0 : Int32)) ∧ Fr Z.heap.size L ∧ h = h0
theorem rm_isempty2 (l : Launch) (Z : State) (a0 : Array Value) (hw : HW a0 Z) (zC : Int32) (SC : tSC Z zC) (PC : ¬ zC = (0 : Int32)) (aE : Addr) (SE : tSE Z aE) (aD : Addr) (SD : tSD Z aD) (aM : Addr) (SM : tSM Z aM) (mO : Addr) (MO : tMO Z mO) (a1 : Addr) (h0 : Heap) (O0 : Old Z Z.heap.size h0) (P1 : Fld Z h0 a1 "java/util/ArrayList" "size" "I" (.int (2 : Int32))) :
    Con l Z (⟨"java/util/ArrayList", "isEmpty", "()Z"⟩ : MethodName) jdk_38_method_9_code 1 (some .boolean) ({ frames := 0, cells := 0, slots := 0, locals := 0 } : Room) #[(.ref a1)] h0 (Q_isempty2 Z zC aE aD aM mO a1 h0) := by
  refine Con.intro (plainFor_of_name pn4) ?_
  intro p e s m below meth c T0 X0 hx hby hml hown0 hnm hret hlk hZ0 e0
  have N0 := Fr.nil Z.heap.size
  refine castGo (g' := mkF m 0 #[.val (.ref a1)] []) (by first | rfl | (simp [entryFrame, mkF, argsToLocals, Value.category]; done)) ?_
  show Go _ _ _ _ (T0.setTop (mkF m 0 #[.val (.ref a1)] []))
  refine aL X0 hx (hb hby d_jdk_38m9_0) (q := 1) rfl rfl rfl ?_
  refine g_getF X0 hx hZ0 hown0 (host := "") (Or.inl (wd98 hw)) Via.refl P1 e0 (hb hby d_jdk_38m9_1) (q := 4) rfl ?_
  intro T184 X184 e184
  refine ifY X184 hx (hb hby d_jdk_38m9_4) (q := 11) (by decide) (by decide) (by decide) ?_
  refine cI X184 hx (hb hby d_jdk_38m9_11) (q := 12) rfl (z := (0 : Int32)) rfl ?_
  refine endP X184 hlk (fun h => by rw [hret] at h; cases h) (lastN X184 hx (t := .boolean) (z' := (0 : Int32)) hret (by simp) (by decide) (hb hby d_jdk_38m9_12)) ?_ (by decide) (by decide)
  rw [e184]
  exact ⟨rfl, N0, rfl⟩
theorem d_jdk_65m120_0 : decode jdk_65_method_120_code 0 = .ok (.aload_n 2, 1) := by decide +kernel
theorem d_jdk_65m120_1 : decode jdk_65_method_120_code 1 = .ok (.ldc 110, 2) := by decide +kernel
theorem wd231 {a0 : Array Value} {Z : State} (hw : HW a0 Z) : ((Jvm.Cond.classLink "java/util/Arrays" (110 : Nat) "[Ljava/lang/Object;") : Jvm.Cond).before a0 Z = true := hw _ (List.mem_of_getElem? (i := 231) rfl)
theorem d_jdk_65m120_3 : decode jdk_65_method_120_code 3 = .ok (.if_acmp .ne 10, 3) := by decide +kernel
theorem d_jdk_65m120_6 : decode jdk_65_method_120_code 6 = .ok (.iload_n 1, 1) := by decide +kernel
theorem d_jdk_65m120_7 : decode jdk_65_method_120_code 7 = .ok (.anewarray 2, 3) := by decide +kernel
theorem wd232 {a0 : Array Value} {Z : State} (hw : HW a0 Z) : ((Jvm.Cond.classLink "java/util/Arrays" (2 : Nat) "java/lang/Object") : Jvm.Cond).before a0 Z = true := hw _ (List.mem_of_getElem? (i := 232) rfl)
theorem d_jdk_65m120_10 : decode jdk_65_method_120_code 10 = .ok (.goto 14, 3) := by decide +kernel
theorem d_jdk_65m120_24 : decode jdk_65_method_120_code 24 = .ok (.astore_n 3, 1) := by decide +kernel
theorem d_jdk_65m120_25 : decode jdk_65_method_120_code 25 = .ok (.aload_n 0, 1) := by decide +kernel
theorem d_jdk_65m120_26 : decode jdk_65_method_120_code 26 = .ok (.iconst 0, 1) := by decide +kernel
theorem d_jdk_65m120_27 : decode jdk_65_method_120_code 27 = .ok (.aload_n 3, 1) := by decide +kernel
theorem d_jdk_65m120_28 : decode jdk_65_method_120_code 28 = .ok (.iconst 0, 1) := by decide +kernel
theorem d_jdk_65m120_29 : decode jdk_65_method_120_code 29 = .ok (.aload_n 0, 1) := by decide +kernel
theorem d_jdk_65m120_30 : decode jdk_65_method_120_code 30 = .ok (.arraylength, 1) := by decide +kernel
theorem d_jdk_65m120_31 : decode jdk_65_method_120_code 31 = .ok (.iload_n 1, 1) := by decide +kernel
theorem d_jdk_65m120_32 : decode jdk_65_method_120_code 32 = .ok (.invokestatic 304, 3) := by decide +kernel
theorem wd235 {a0 : Array Value} {Z : State} (hw : HW a0 Z) : ((Jvm.Cond.code ({ cls := "java/lang/Math", name := "min", desc := "(II)I" } : Jvm.MethodName) jdk_29_method_69_code (2 : Nat) (Option.some Jvm.ClassFile.FieldType.int)) : Jvm.Cond).before a0 Z = true := hw _ (List.mem_of_getElem? (i := 235) rfl)
theorem wd233 {a0 : Array Value} {Z : State} (hw : HW a0 Z) : ((Jvm.Cond.methodLink "java/util/Arrays" (304 : Nat) ({ cls := "java/lang/Math", name := "min", desc := "(II)I" } : Jvm.MethodName)) : Jvm.Cond).before a0 Z = true := hw _ (List.mem_of_getElem? (i := 233) rfl)
theorem wd234 {a0 : Array Value} {Z : State} (hw : HW a0 Z) : ((Jvm.Cond.static ({ cls := "java/lang/Math", name := "min", desc := "(II)I" } : Jvm.MethodName)) : Jvm.Cond).before a0 Z = true := hw _ (List.mem_of_getElem? (i := 234) rfl)
theorem d_jdk_65m120_35 : decode jdk_65_method_120_code 35 = .ok (.invokestatic 150, 3) := by decide +kernel
theorem wd236 {a0 : Array Value} {Z : State} (hw : HW a0 Z) : ((Jvm.Cond.methodLink "java/util/Arrays" (150 : Nat) ({ cls := "java/lang/System", name := "arraycopy", desc := "(Ljava/lang/Object;ILjava/lang/Object;II)V" } : Jvm.MethodName)) : Jvm.Cond).before a0 Z = true := hw _ (List.mem_of_getElem? (i := 236) rfl)
theorem wd239 {a0 : Array Value} {Z : State} (hw : HW a0 Z) : ((Jvm.Cond.native ({ cls := "java/lang/System", name := "arraycopy", desc := "(Ljava/lang/Object;ILjava/lang/Object;II)V" } : Jvm.MethodName)) : Jvm.Cond).before a0 Z = true := hw _ (List.mem_of_getElem? (i := 239) rfl)
theorem wd237 {a0 : Array Value} {Z : State} (hw : HW a0 Z) : ((Jvm.Cond.static ({ cls := "java/lang/System", name := "arraycopy", desc := "(Ljava/lang/Object;ILjava/lang/Object;II)V" } : Jvm.MethodName)) : Jvm.Cond).before a0 Z = true := hw _ (List.mem_of_getElem? (i := 237) rfl)
theorem wd238 {a0 : Array Value} {Z : State} (hw : HW a0 Z) : ((Jvm.Cond.initialized "java/lang/System") : Jvm.Cond).before a0 Z = true := hw _ (List.mem_of_getElem? (i := 238) rfl)
theorem d_jdk_65m120_38 : decode jdk_65_method_120_code 38 = .ok (.aload_n 3, 1) := by decide +kernel
theorem d_jdk_65m120_39 : decode jdk_65_method_120_code 39 = .ok (.areturn, 1) := by decide +kernel
def Q_cpc1 (Z : State) (zC : Int32) (aE : Addr) (aD : Addr) (aM : Addr) (mO : Addr) (r : Addr) (kr : ClassId) (x0 : Addr) (h0 : Heap) (v : Option Value) (h : Heap) (L : List Loc) : Prop := ∃ (c : Addr), ∃ (kc : ClassId), v = some (.ref c) ∧ Fr Z.heap.size L ∧ Keep h0 h [] ∧ h0.size ≤ c ∧ Arv Z h c kc (.object "java/lang/Object") (1 : Int32) [(.ref x0)] .null
theorem pn9 : plainName "java/util/Arrays" = true := by first | (simp [plainName, overriddenIn]; done) | decide +kernel
theorem rm_cpc1 (l : Launch) (Z : State) (a0 : Array Value) (hw : HW a0 Z) (zC : Int32) (SC : tSC Z zC) (PC : ¬ zC = (0 : Int32)) (aE : Addr) (SE : tSE Z aE) (aD : Addr) (SD : tSD Z aD) (aM : Addr) (SM : tSM Z aM) (mO : Addr) (MO : tMO Z mO) (r : Addr) (kr : ClassId) (x0 : Addr) (h0 : Heap) (O0 : Old Z Z.heap.size h0) (P1 : Arv Z h0 r kr (.object "java/lang/Object") (10 : Int32) [(.ref x0), .null, .null, .null, .null, .null, .null, .null, .null, .null] .null) (P2 : Exa Z h0 r "[Ljava/lang/Object;") (PX0 : Exa Z h0 x0 "com/example/quaymark/quaymark/Review$LeftOut") :
    Con l Z (⟨"java/util/Arrays", "copyOf", "([Ljava/lang/Object;ILjava/lang/Class;)[Ljava/lang/Object;"⟩ : MethodName) jdk_65_method_120_code 4 (some (.array (.object "java/lang/Object"))) ({ frames := 1, cells := 1, slots := 1, locals := 31 } : Room) #[(.ref r), (.int (1 : Int32)), (.ref mO)] h0 (Q_cpc1 Z zC aE aD aM mO r kr x0 h0) := by
  refine Con.intro (plainFor_of_name pn9) ?_
  intro p e s m below meth c T0 X0 hx hby hml hown0 hnm hret hlk hZ0 e0
  have N0 := Fr.nil Z.heap.size
  refine castGo (g' := mkF m 0 #[.val (.ref r), .val (.int (1 : Int32)), .val (.ref mO), .unset] []) (by first | rfl | (simp [entryFrame, mkF, argsToLocals, Value.category]; done)) ?_
  show Go _ _ _ _ (T0.setTop (mkF m 0 #[.val (.ref r), .val (.int (1 : Int32)), .val (.ref mO), .unset] []))
  refine aL X0 hx (hb hby d_jdk_65m120_0) (q := 1) rfl rfl rfl ?_
  refine g_ldcM X0 hx hZ0 hown0 (wd231 hw) MO e0 (hb hby d_jdk_65m120_1) (q := 3) rfl ?_
  intro T185 X185 e185
  refine g_acmp X185 hx (hb hby d_jdk_65m120_3) (q := 6) rfl rfl (same := true) (decide_eq_true rfl) (by decide) (by decide) ?_
  refine iL X185 hx (hb hby d_jdk_65m120_6) (q := 7) rfl rfl ?_
  refine g_newR X185 hx hZ0 hown0 (wd232 hw) (wd208 hw) (ad := "[Ljava/lang/Object;") (by decide) (by decide) (n := 1) (by decide) (by decide) (by decide) (by decide) e185 (hb hby d_jdk_65m120_7) (q := 10) rfl ?_
  intro T186 h186 k186 b186 g186 X186 e186 E186 V186 A186 O186
  have Va186 : Arv Z h186 b186 k186 (.object "java/lang/Object") (1 : Int32) [.null] .null := V186
  refine g_goto X186 hx (hb hby d_jdk_65m120_10) (q := 24) (by decide) (by decide) ?_
  refine sA X186 hx (hb hby d_jdk_65m120_24) (q := 25) rfl rfl (Ls' := #[.val (.ref r), .val (.int (1 : Int32)), .val (.ref mO), .val (.ref b186)]) rfl ?_
  refine aL X186 hx (hb hby d_jdk_65m120_25) (q := 26) rfl rfl rfl ?_
  refine cI X186 hx (hb hby d_jdk_65m120_26) (q := 27) rfl (z := (0 : Int32)) rfl ?_
  refine aL X186 hx (hb hby d_jdk_65m120_27) (q := 28) rfl rfl rfl ?_
  refine cI X186 hx (hb hby d_jdk_65m120_28) (q := 29) rfl (z := (0 : Int32)) rfl ?_
  refine aL X186 hx (hb hby d_jdk_65m120_29) (q := 30) rfl rfl rfl ?_
  have f187 : Arv Z h186 r kr (.object "java/lang/Object") (10 : Int32) [(.ref x0), .null, .null, .null, .null, .null, .null, .null, .null, .null] .null := P1.ext E186
  refine g_len X186 hx hZ0 f187 e186 (hb hby d_jdk_65m120_30) (q := 31) rfl ?_
  refine iL X186 hx (hb hby d_jdk_65m120_31) (q := 32) rfl rfl ?_
  have f189 : Old Z Z.heap.size h186 := O0.ext E186
  refine g_st X186 hx hZ0 hown0 (wd233 hw) (wd234 hw) (wd205 hw) (wd235 hw) (by decide) e186 (Con.back (W := 4) (rm_min1 l Z a0 hw zC SC PC aE SE aD SD aM SM mO MO  h186 f189 ) hZ0 (wd235 hw) (wd205 hw) (by decide) (by decide)) (by rw [hml]; rfl) (lenOf pd2 rfl) rfl (Nat.le_of_eq rfl) (hb hby d_jdk_65m120_32) (q := 35) rfl (by decide) (by decide) ?_
  intro v188 T188 L188 X188 Q188
  obtain ⟨rfl, Nq188, e188⟩ := Q188
  have N188 := Fr.app N0 Nq188
  show Go _ _ _ _ (T188.setTop (mkF m 35 #[.val (.ref r), .val (.int (1 : Int32)), .val (.ref mO), .val (.ref b186)] [(.int (1 : Int32)), (.int (0 : Int32)), (.ref b186), (.int (0 : Int32)), (.ref r)]))
  have f191 : Exa Z h186 x0 "com/example/quaymark/quaymark/Review$LeftOut" := PX0.ext E186
  have gz192 : Z.heap.size ≤ b186 := Nat.le_trans O0.2.1 (Nat.le_of_eq g186.symm)
  refine g_cp X188 hx hZ0 hown0 (wd236 hw) (wd239 hw) (wd237 hw) (wd238 hw) (us := [(.ref x0)]) f187 Va186 (Or.inr ⟨rfl, rfl, ⟨(sto_arv Va186 O186 (Ins.of_exa f191 (wd209 hw))), trivial⟩⟩) (by decide) (by decide) (by decide) (by decide) (by decide) rfl (Nat.le_of_ble_eq_true rfl) N188 gz192 (by rw [hml]; rfl) (by decide) (W := 0) (Nat.le_of_eq rfl) (by decide) e188 (hb hby d_jdk_65m120_35) (q := 38) rfl ?_
  intro T190 h190 L190 X190 e190 N190 K190q V190
  have Va190 : Arv Z h190 b186 k186 (.object "java/lang/Object") (1 : Int32) [(.ref x0)] .null := V190
  refine aL X190 hx (hb hby d_jdk_65m120_38) (q := 39) rfl rfl rfl ?_
  have K193 : Keep h0 h186 [] := (Keep.refl h0 []).ext E186
  have gh194 : h0.size ≤ b186 := Nat.le_trans (Nat.le_refl _) (Nat.le_of_eq g186.symm)
  have K195 : Keep h0 h190 [] := K193.trans K190q (allS (Or.inr gh194) all0)
  refine endP X190 hlk (fun h => by rw [hret] at h; cases h) (lastA X190 hx hret rfl rfl rfl (hb hby d_jdk_65m120_39)) ?_ (by decide) (by decide)
  rw [e190]
  exact ⟨b186, k186, rfl, N190, K195, gh194, Va190⟩
theorem d_jdk_65m119_0 : decode jdk_65_method_119_code 0 = .ok (.aload_n 0, 1) := by decide +kernel
theorem d_jdk_65m119_1 : decode jdk_65_method_119_code 1 = .ok (.iload_n 1, 1) := by decide +kernel
theorem d_jdk_65m119_2 : decode jdk_65_method_119_code 2 = .ok (.aload_n 0, 1) := by decide +kernel
theorem d_jdk_65m119_3 : decode jdk_65_method_119_code 3 = .ok (.invokevirtual 86, 3) := by decide +kernel
theorem wd222 {a0 : Array Value} {Z : State} (hw : HW a0 Z) : ((Jvm.Cond.methodLink "java/util/Arrays" (86 : Nat) ({ cls := "java/lang/Object", name := "getClass", desc := "()Ljava/lang/Class;" } : Jvm.MethodName)) : Jvm.Cond).before a0 Z = true := hw _ (List.mem_of_getElem? (i := 222) rfl)
theorem wd223 {a0 : Array Value} {Z : State} (hw : HW a0 Z) : ((Jvm.Cond.declares ({ cls := "java/lang/Object", name := "getClass", desc := "()Ljava/lang/Class;" } : Jvm.MethodName)) : Jvm.Cond).before a0 Z = true := hw _ (List.mem_of_getElem? (i := 223) rfl)
theorem wd87 {a0 : Array Value} {Z : State} (hw : HW a0 Z) : ((Jvm.Cond.noSuperclass "java/lang/Object") : Jvm.Cond).before a0 Z = true := hw _ (List.mem_of_getElem? (i := 87) rfl)
theorem wd225 {a0 : Array Value} {Z : State} (hw : HW a0 Z) : ((Jvm.Cond.selects "[Ljava/lang/Object;" ({ cls := "java/lang/Object", name := "getClass", desc := "()Ljava/lang/Class;" } : Jvm.MethodName) ({ cls := "java/lang/Object", name := "getClass", desc := "()Ljava/lang/Class;" } : Jvm.MethodName)) : Jvm.Cond).before a0 Z = true := hw _ (List.mem_of_getElem? (i := 225) rfl)
theorem wd224 {a0 : Array Value} {Z : State} (hw : HW a0 Z) : ((Jvm.Cond.instanceMethod ({ cls := "java/lang/Object", name := "getClass", desc := "()Ljava/lang/Class;" } : Jvm.MethodName)) : Jvm.Cond).before a0 Z = true := hw _ (List.mem_of_getElem? (i := 224) rfl)
theorem wd226 {a0 : Array Value} {Z : State} (hw : HW a0 Z) : ((Jvm.Cond.native ({ cls := "java/lang/Object", name := "getClass", desc := "()Ljava/lang/Class;" } : Jvm.MethodName)) : Jvm.Cond).before a0 Z = true := hw _ (List.mem_of_getElem? (i := 226) rfl)
theorem d_jdk_65m119_6 : decode jdk_65_method_119_code 6 = .ok (.invokestatic 300, 3) := by decide +kernel
theorem wd230 {a0 : Array Value} {Z : State} (hw : HW a0 Z) : ((Jvm.Cond.code ({ cls := "java/util/Arrays", name := "copyOf", desc := "([Ljava/lang/Object;ILjava/lang/Class;)[Ljava/lang/Object;" } : Jvm.MethodName) jdk_65_method_120_code (4 : Nat) (Option.some (Jvm.ClassFile.FieldType.array (Jvm.ClassFile.FieldType.object "java/lang/Object")))) : Jvm.Cond).before a0 Z = true := hw _ (List.mem_of_getElem? (i := 230) rfl)
theorem wd220 {a0 : Array Value} {Z : State} (hw : HW a0 Z) : ((Jvm.Cond.initialized "java/util/Arrays") : Jvm.Cond).before a0 Z = true := hw _ (List.mem_of_getElem? (i := 220) rfl)
theorem pd6 : parseMethodDescriptor "([Ljava/lang/Object;ILjava/lang/Class;)[Ljava/lang/Object;" = some ⟨[(.array (.object "java/lang/Object")), .int, (.object "java/lang/Class")], some (.array (.object "java/lang/Object"))⟩ := by decide +kernel
theorem wd228 {a0 : Array Value} {Z : State} (hw : HW a0 Z) : ((Jvm.Cond.methodLink "java/util/Arrays" (300 : Nat) ({ cls := "java/util/Arrays", name := "copyOf", desc := "([Ljava/lang/Object;ILjava/lang/Class;)[Ljava/lang/Object;" } : Jvm.MethodName)) : Jvm.Cond).before a0 Z = true := hw _ (List.mem_of_getElem? (i := 228) rfl)
theorem wd229 {a0 : Array Value} {Z : State} (hw : HW a0 Z) : ((Jvm.Cond.static ({ cls := "java/util/Arrays", name := "copyOf", desc := "([Ljava/lang/Object;ILjava/lang/Class;)[Ljava/lang/Object;" } : Jvm.MethodName)) : Jvm.Cond).before a0 Z = true := hw _ (List.mem_of_getElem? (i := 229) rfl)
theorem d_jdk_65m119_9 : decode jdk_65_method_119_code 9 = .ok (.areturn, 1) := by decide +kernel
def Q_cp1 (Z : State) (zC : Int32) (aE : Addr) (aD : Addr) (aM : Addr) (mO : Addr) (r : Addr) (kr : ClassId) (x0 : Addr) (h0 : Heap) (v : Option Value) (h : Heap) (L : List Loc) : Prop := ∃ (c : Addr), ∃ (kc : ClassId), v = some (.ref c) ∧ Fr Z.heap.size L ∧ Keep h0 h [] ∧ h0.size ≤ c ∧ Arv Z h c kc (.object "java/lang/Object") (1 : Int32) [(.ref x0)] .null
theorem rm_cp1 (l : Launch) (Z : State) (a0 : Array Value) (hw : HW a0 Z) (zC : Int32) (SC : tSC Z zC) (PC : ¬ zC = (0 : Int32)) (aE : Addr) (SE : tSE Z aE) (aD : Addr) (SD : tSD Z aD) (aM : Addr) (SM : tSM Z aM) (mO : Addr) (MO : tMO Z mO) (r : Addr) (kr : ClassId) (x0 : Addr) (h0 : Heap) (O0 : Old Z Z.heap.size h0) (P1 : Arv Z h0 r kr (.object "java/lang/Object") (10 : Int32) [(.ref x0), .null, .null, .null, .null, .null, .null, .null, .null, .null] .null) (P2 : Exa Z h0 r "[Ljava/lang/Object;") (PX0 : Exa Z h0 x0 "com/example/quaymark/quaymark/Review$LeftOut") :
    Con l Z (⟨"java/util/Arrays", "copyOf", "([Ljava/lang/Object;I)[Ljava/lang/Object;"⟩ : MethodName) jdk_65_method_119_code 2 (some (.array (.object "java/lang/Object"))) ({ frames := 2, cells := 1, slots := 1, locals := 46 } : Room) #[(.ref r), (.int (1 : Int32))] h0 (Q_cp1 Z zC aE aD aM mO r kr x0 h0) := by
  refine Con.intro (plainFor_of_name pn9) ?_
  intro p e s m below meth c T0 X0 hx hby hml hown0 hnm hret hlk hZ0 e0
  have N0 := Fr.nil Z.heap.size
  refine castGo (g' := mkF m 0 #[.val (.ref r), .val (.int (1 : Int32))] []) (by first | rfl | (simp [entryFrame, mkF, argsToLocals, Value.category]; done)) ?_
  show Go _ _ _ _ (T0.setTop (mkF m 0 #[.val (.ref r), .val (.int (1 : Int32))] []))
  refine aL X0 hx (hb hby d_jdk_65m119_0) (q := 1) rfl rfl rfl ?_
  refine iL X0 hx (hb hby d_jdk_65m119_1) (q := 2) rfl rfl ?_
  refine aL X0 hx (hb hby d_jdk_65m119_2) (q := 3) rfl rfl rfl ?_
  refine g_gcls X0 hx hZ0 hown0 (wd222 hw) (wd223 hw) (wd87 hw) (wd225 hw) (wd224 hw) (wd226 hw) P2 MO (by rw [hml]; rfl) (by decide) (W := 2) (Nat.le_of_eq rfl) (by decide) e0 (hb hby d_jdk_65m119_3) (q := 6) rfl ?_
  intro T196 X196 e196
  refine g_st X196 hx hZ0 hown0 (wd228 hw) (wd229 hw) (wd220 hw) (wd230 hw) (by decide) e196 (Con.back (W := 0) (rm_cpc1 l Z a0 hw zC SC PC aE SE aD SD aM SM mO MO r kr x0 h0 O0 P1 P2 PX0) hZ0 (wd230 hw) (wd220 hw) (by decide) (by decide)) (by rw [hml]; rfl) (lenOf pd6 rfl) rfl (Nat.le_of_eq rfl) (hb hby d_jdk_65m119_6) (q := 9) rfl (by decide) (by decide) ?_
  intro v197 T197 L197 X197 Q197
  obtain ⟨c_197, kc_197, rfl, Nq197, K197q, q197_0, q197_1⟩ := Q197
  have N197 := Fr.app N0 Nq197
  show Go _ _ _ _ (T197.setTop (mkF m 9 #[.val (.ref r), .val (.int (1 : Int32))] [(.ref c_197)]))
  have K198 : Keep h0 T197.heap [] := (Keep.refl h0 []).trans K197q all0
  have gh199 : h0.size ≤ c_197 := Nat.le_trans (Nat.le_refl _) q197_0
  refine endP X197 hlk (fun h => by rw [hret] at h; cases h) (lastA X197 hx hret rfl rfl rfl (hb hby d_jdk_65m119_9)) ?_ (by decide) (by decide)
  exact ⟨c_197, kc_197, rfl, N197, K198, gh199, q197_1⟩
theorem d_jdk_38m16_0 : decode jdk_38_method_16_code 0 = .ok (.aload_n 0, 1) := by decide +kernel
theorem d_jdk_38m16_1 : decode jdk_38_method_16_code 1 = .ok (.getfield 9, 3) := by decide +kernel
theorem d_jdk_38m16_4 : decode jdk_38_method_16_code 4 = .ok (.aload_n 0, 1) := by decide +kernel
theorem d_jdk_38m16_5 : decode jdk_38_method_16_code 5 = .ok (.getfield 48, 3) := by decide +kernel
theorem d_jdk_38m16_8 : decode jdk_38_method_16_code 8 = .ok (.invokestatic 66, 3) := by decide +kernel
theorem wd221 {a0 : Array Value} {Z : State} (hw : HW a0 Z) : ((Jvm.Cond.code ({ cls := "java/util/Arrays", name := "copyOf", desc := "([Ljava/lang/Object;I)[Ljava/lang/Object;" } : Jvm.MethodName) jdk_65_method_119_code (2 : Nat) (Option.some (Jvm.ClassFile.FieldType.array (Jvm.ClassFile.FieldType.object "java/lang/Object")))) : Jvm.Cond).before a0 Z = true := hw _ (List.mem_of_getElem? (i := 221) rfl)
theorem pd7 : parseMethodDescriptor "([Ljava/lang/Object;I)[Ljava/lang/Object;" = some ⟨[(.array (.object "java/lang/Object")), .int], some (.array (.object "java/lang/Object"))⟩ := by decide +kernel
theorem wd218 {a0 : Array Value} {Z : State} (hw : HW a0 Z) : ((Jvm.Cond.methodLink "java/util/ArrayList" (66 : Nat) ({ cls := "java/util/Arrays", name := "copyOf", desc := "([Ljava/lang/Object;I)[Ljava/lang/Object;" } : Jvm.MethodName)) : Jvm.Cond).before a0 Z = true := hw _ (List.mem_of_getElem? (i := 218) rfl)
theorem wd219 {a0 : Array Value} {Z : State} (hw : HW a0 Z) : ((Jvm.Cond.static ({ cls := "java/util/Arrays", name := "copyOf", desc := "([Ljava/lang/Object;I)[Ljava/lang/Object;" } : Jvm.MethodName)) : Jvm.Cond).before a0 Z = true := hw _ (List.mem_of_getElem? (i := 219) rfl)
theorem d_jdk_38m16_11 : decode jdk_38_method_16_code 11 = .ok (.areturn, 1) := by decide +kernel
def Q_toarr1 (Z : State) (zC : Int32) (aE : Addr) (aD : Addr) (aM : Addr) (mO : Addr) (a1 : Addr) (r : Addr) (kr : ClassId) (x0 : Addr) (h0 : Heap) (v : Option Value) (h : Heap) (L : List Loc) : Prop := ∃ (c : Addr), ∃ (kc : ClassId), v = some (.ref c) ∧ Fr Z.heap.size L ∧ Keep h0 h [] ∧ h0.size ≤ c ∧ Arv Z h c kc (.object "java/lang/Object") (1 : Int32) [(.ref x0)] .null
theorem rm_toarr1 (l : Launch) (Z : State) (a0 : Array Value) (hw : HW a0 Z) (zC : Int32) (SC : tSC Z zC) (PC : ¬ zC = (0 : Int32)) (aE : Addr) (SE : tSE Z aE) (aD : Addr) (SD : tSD Z aD) (aM : Addr) (SM : tSM Z aM) (mO : Addr) (MO : tMO Z mO) (a1 : Addr) (r : Addr) (kr : ClassId) (x0 : Addr) (h0 : Heap) (O0 : Old Z Z.heap.size h0) (P3 : Exa Z h0 a1 "java/util/ArrayList") (P4 : Fld Z h0 a1 "java/util/ArrayList" "size" "I" (.int (1 : Int32))) (P5 : Fld Z h0 a1 "java/util/ArrayList" "elementData" "[Ljava/lang/Object;" (.ref r)) (P1 : Arv Z h0 r kr (.object "java/lang/Object") (10 : Int32) [(.ref x0), .null, .null, .null, .null, .null, .null, .null, .null, .null] .null) (P2 : Exa Z h0 r "[Ljava/lang/Object;") (PX0 : Exa Z h0 x0 "com/example/quaymark/quaymark/Review$LeftOut") :
    Con l Z (⟨"java/util/ArrayList", "toArray", "()[Ljava/lang/Object;"⟩ : MethodName) jdk_38_method_16_code 1 (some (.array (.object "java/lang/Object"))) ({ frames := 3, cells := 1, slots := 1, locals := 59 } : Room) #[(.ref a1)] h0 (Q_toarr1 Z zC aE aD aM mO a1 r kr x0 h0) := by
  refine Con.intro (plainFor_of_name pn4) ?_
  intro p e s m below meth c T0 X0 hx hby hml hown0 hnm hret hlk hZ0 e0
  have N0 := Fr.nil Z.heap.size
  refine castGo (g' := mkF m 0 #[.val (.ref a1)] []) (by first | rfl | (simp [entryFrame, mkF, argsToLocals, Value.category]; done)) ?_
  show Go _ _ _ _ (T0.setTop (mkF m 0 #[.val (.ref a1)] []))
  refine aL X0 hx (hb hby d_jdk_38m16_0) (q := 1) rfl rfl rfl ?_
  refine g_getF X0 hx hZ0 hown0 (host := "") (Or.inl (wd66 hw)) Via.refl P5 e0 (hb hby d_jdk_38m16_1) (q := 4) rfl ?_
  intro T200 X200 e200
  refine aL X200 hx (hb hby d_jdk_38m16_4) (q := 5) rfl rfl rfl ?_
  refine g_getF X200 hx hZ0 hown0 (host := "") (Or.inl (wd98 hw)) Via.refl P4 e200 (hb hby d_jdk_38m16_5) (q := 8) rfl ?_
  intro T201 X201 e201
  refine g_st X201 hx hZ0 hown0 (wd218 hw) (wd219 hw) (wd220 hw) (wd221 hw) (by decide) e201 (Con.back (W := 0) (rm_cp1 l Z a0 hw zC SC PC aE SE aD SD aM SM mO MO r kr x0 h0 O0 P1 P2 PX0) hZ0 (wd221 hw) (wd220 hw) (by decide) (by decide)) (by rw [hml]; rfl) (lenOf pd7 rfl) rfl (Nat.le_of_eq rfl) (hb hby d_jdk_38m16_8) (q := 11) rfl (by decide) (by decide) ?_
  intro v202 T202 L202 X202 Q202
  obtain ⟨c_202, kc_202, rfl, Nq202, K202q, q202_0, q202_1⟩ := Q202
  have N202 := Fr.app N0 Nq202
  show Go _ _ _ _ (T202.setTop (mkF m 11 #[.val (.ref a1)] [(.ref c_202)]))
  have K203 : Keep h0 T202.heap [] := (Keep.refl h0 []).trans K202q all0
  have gh204 : h0.size ≤ c_202 := Nat.le_trans (Nat.le_refl _) q202_0
  refine endP X202 hlk (fun h => by rw [hret] at h; cases h) (lastA X202 hx hret rfl rfl rfl (hb hby d_jdk_38m16_11)) ?_ (by decide) (by decide)
  exact ⟨c_202, kc_202, rfl, N202, K203, gh204, q202_1⟩
def Q_cpc2 (Z : State) (zC : Int32) (aE : Addr) (aD : Addr) (aM : Addr) (mO : Addr) (r : Addr) (kr : ClassId) (x0 : Addr) (x1 : Addr) (h0 : Heap) (v : Option Value) (h : Heap) (L : List Loc) : Prop := ∃ (c : Addr), ∃ (kc : ClassId), v = some (.ref c) ∧ Fr Z.heap.size L ∧ Keep h0 h [] ∧ h0.size ≤ c ∧ Arv Z h c kc (.object "java/lang/Object") (2 : Int32) [(.ref x0), (.ref x1)] .null
theorem rm_cpc2 (l : Launch) (Z : State) (a0 : Array Value) (hw : HW a0 Z) (zC : Int32) (SC : tSC Z zC) (PC : ¬ zC = (0 : Int32)) (aE : Addr) (SE : tSE Z aE) (aD : Addr) (SD : tSD Z aD) (aM : Addr) (SM : tSM Z aM) (mO : Addr) (MO : tMO Z mO) (r : Addr) (kr : ClassId) (x0 : Addr) (x1 : Addr) (h0 : Heap) (O0 : Old Z Z.heap.size h0) (P1 : Arv Z h0 r kr (.object "java/lang/Object") (10 : Int32) [(.ref x0), (.ref x1), .null, .null, .null, .null, .null, .null, .null, .null] .null) (P2 : Exa Z h0 r "[Ljava/lang/Object;") (PX0 : Exa Z h0 x0 "com/example/quaymark/quaymark/Review$LeftOut") (PX1 : Exa Z h0 x1 "com/example/quaymark/quaymark/Review$LeftOut") :
    Con l Z (⟨"java/util/Arrays", "copyOf", "([Ljava/lang/Object;ILjava/lang/Class;)[Ljava/lang/Object;"⟩ : MethodName) jdk_65_method_120_code 4 (some (.array (.object "java/lang/Object"))) ({ frames := 1, cells := 1, slots := 2, locals := 31 } : Room) #[(.ref r), (.int (2 : Int32)), (.ref mO)] h0 (Q_cpc2 Z zC aE aD aM mO r kr x0 x1 h0) := by
  refine Con.intro (plainFor_of_name pn9) ?_
  intro p e s m below meth c T0 X0 hx hby hml hown0 hnm hret hlk hZ0 e0
  have N0 := Fr.nil Z.heap.size
  refine castGo (g' := mkF m 0 #[.val (.ref r), .val (.int (2 : Int32)), .val (.ref mO), .unset] []) (by first | rfl | (simp [entryFrame, mkF, argsToLocals, Value.category]; done)) ?_
  show Go _ _ _ _ (T0.setTop (mkF m 0 #[.val (.ref r), .val (.int (2 : Int32)), .val (.ref mO), .unset] []))
  refine aL X0 hx (hb hby d_jdk_65m120_0) (q := 1) rfl rfl rfl ?_
  refine g_ldcM X0 hx hZ0 hown0 (wd231 hw) MO e0 (hb hby d_jdk_65m120_1) (q := 3) rfl ?_
  intro T205 X205 e205
  refine g_acmp X205 hx (hb hby d_jdk_65m120_3) (q := 6) rfl rfl (same := true) (decide_eq_true rfl) (by decide) (by decide) ?_
  refine iL X205 hx (hb hby d_jdk_65m120_6) (q := 7) rfl rfl ?_
  refine g_newR X205 hx hZ0 hown0 (wd232 hw) (wd208 hw) (ad := "[Ljava/lang/Object;") (by decide) (by decide) (n := 2) (by decide) (by decide) (by decide) (by decide) e205 (hb hby d_jdk_65m120_7) (q := 10) rfl ?_
  intro T206 h206 k206 b206 g206 X206 e206 E206 V206 A206 O206
  have Va206 : Arv Z h206 b206 k206 (.object "java/lang/Object") (2 : Int32) [.null, .null] .null := V206
  refine g_goto X206 hx (hb hby d_jdk_65m120_10) (q := 24) (by decide) (by decide) ?_
  refine sA X206 hx (hb hby d_jdk_65m120_24) (q := 25) rfl rfl (Ls' := #[.val (.ref r), .val (.int (2 : Int32)), .val (.ref mO), .val (.ref b206)]) rfl ?_
  refine aL X206 hx (hb hby d_jdk_65m120_25) (q := 26) rfl rfl rfl ?_
  refine cI X206 hx (hb hby d_jdk_65m120_26) (q := 27) rfl (z := (0 : Int32)) rfl ?_
  refine aL X206 hx (hb hby d_jdk_65m120_27) (q := 28) rfl rfl rfl ?_
  refine cI X206 hx (hb hby d_jdk_65m120_28) (q := 29) rfl (z := (0 : Int32)) rfl ?_
  refine aL X206 hx (hb hby d_jdk_65m120_29) (q := 30) rfl rfl rfl ?_
  have f207 : Arv Z h206 r kr (.object "java/lang/Object") (10 : Int32) [(.ref x0), (.ref x1), .null, .null, .null, .null, .null, .null, .null, .null] .null := P1.ext E206
  refine g_len X206 hx hZ0 f207 e206 (hb hby d_jdk_65m120_30) (q := 31) rfl ?_
  refine iL X206 hx (hb hby d_jdk_65m120_31) (q := 32) rfl rfl ?_
  have f209 : Old Z Z.heap.size h206 := O0.ext E206
  refine g_st X206 hx hZ0 hown0 (wd233 hw) (wd234 hw) (wd205 hw) (wd235 hw) (by decide) e206 (Con.back (W := 4) (rm_min2 l Z a0 hw zC SC PC aE SE aD SD aM SM mO MO  h206 f209 ) hZ0 (wd235 hw) (wd205 hw) (by decide) (by decide)) (by rw [hml]; rfl) (lenOf pd2 rfl) rfl (Nat.le_of_eq rfl) (hb hby d_jdk_65m120_32) (q := 35) rfl (by decide) (by decide) ?_
  intro v208 T208 L208 X208 Q208
  obtain ⟨rfl, Nq208, e208⟩ := Q208
  have N208 := Fr.app N0 Nq208
  show Go _ _ _ _ (T208.setTop (mkF m 35 #[.val (.ref r), .val (.int (2 : Int32)), .val (.ref mO), .val (.ref b206)] [(.int (2 : Int32)), (.int (0 : Int32)), (.ref b206), (.int (0 : Int32)), (.ref r)]))
  have f211 : Exa Z h206 x1 "com/example/quaymark/quaymark/Review$LeftOut" := PX1.ext E206
  have f212 : Exa Z h206 x0 "com/example/quaymark/quaymark/Review$LeftOut" := PX0.ext E206
  have gz213 : Z.heap.size ≤ b206 := Nat.le_trans O0.2.1 (Nat.le_of_eq g206.symm)
  refine g_cp X208 hx hZ0 hown0 (wd236 hw) (wd239 hw) (wd237 hw) (wd238 hw) (us := [(.ref x0), (.ref x1)]) f207 Va206 (Or.inr ⟨rfl, rfl, ⟨(sto_arv Va206 O206 (Ins.of_exa f212 (wd209 hw))), ⟨(sto_arv Va206 O206 (Ins.of_exa f211 (wd209 hw))), trivial⟩⟩⟩) (by decide) (by decide) (by decide) (by decide) (by decide) rfl (Nat.le_of_ble_eq_true rfl) N208 gz213 (by rw [hml]; rfl) (by decide) (W := 0) (Nat.le_of_eq rfl) (by decide) e208 (hb hby d_jdk_65m120_35) (q := 38) rfl ?_
  intro T210 h210 L210 X210 e210 N210 K210q V210
  have Va210 : Arv Z h210 b206 k206 (.object "java/lang/Object") (2 : Int32) [(.ref x0), (.ref x1)] .null := V210
  refine aL X210 hx (hb hby d_jdk_65m120_38) (q := 39) rfl rfl rfl ?_
  have K214 : Keep h0 h206 [] := (Keep.refl h0 []).ext E206
  have gh215 : h0.size ≤ b206 := Nat.le_trans (Nat.le_refl _) (Nat.le_of_eq g206.symm)
  have K216 : Keep h0 h210 [] := K214.trans K210q (allS (Or.inr gh215) all0)
  refine endP X210 hlk (fun h => by rw [hret] at h; cases h) (lastA X210 hx hret rfl rfl rfl (hb hby d_jdk_65m120_39)) ?_ (by decide) (by decide)
  rw [e210]
  exact ⟨b206, k206, rfl, N210, K216, gh215, Va210⟩
def Q_cp2 (Z : State) (zC : Int32) (aE : Addr) (aD : Addr) (aM : Addr) (mO : Addr) (r : Addr) (kr : ClassId) (x0 : Addr) (x1 : Addr) (h0 : Heap) (v : Option Value) (h : Heap) (L : List Loc) : Prop := ∃ (c : Addr), ∃ (kc : ClassId), v = some (.ref c) ∧ Fr Z.heap.size L ∧ Keep h0 h [] ∧ h0.size ≤ c ∧ Arv Z h c kc (.object "java/lang/Object") (2 : Int32) [(.ref x0), (.ref x1)] .null
theorem rm_cp2 (l : Launch) (Z : State) (a0 : Array Value) (hw : HW a0 Z) (zC : Int32) (SC : tSC Z zC) (PC : ¬ zC = (0 : Int32)) (aE : Addr) (SE : tSE Z aE) (aD : Addr) (SD : tSD Z aD) (aM : Addr) (SM : tSM Z aM) (mO : Addr) (MO : tMO Z mO) (r : Addr) (kr : ClassId) (x0 : Addr) (x1 : Addr) (h0 : Heap) (O0 : Old Z Z.heap.size h0) (P1 : Arv Z h0 r kr (.object "java/lang/Object") (10 : Int32) [(.ref x0), (.ref x1), .null, .null, .null, .null, .null, .null, .null, .null] .null) (P2 : Exa Z h0 r "[Ljava/lang/Object;") (PX0 : Exa Z h0 x0 "com/example/quaymark/quaymark/Review$LeftOut") (PX1 : Exa Z h0 x1 "com/example/quaymark/quaymark/Review$LeftOut") :
    Con l Z (⟨"java/util/Arrays", "copyOf", "([Ljava/lang/Object;I)[Ljava/lang/Object;"⟩ : MethodName) jdk_65_method_119_code 2 (some (.array (.object "java/lang/Object"))) ({ frames := 2, cells := 1, slots := 2, locals := 46 } : Room) #[(.ref r), (.int (2 : Int32))] h0 (Q_cp2 Z zC aE aD aM mO r kr x0 x1 h0) := by
  refine Con.intro (plainFor_of_name pn9) ?_
  intro p e s m below meth c T0 X0 hx hby hml hown0 hnm hret hlk hZ0 e0
  have N0 := Fr.nil Z.heap.size
  refine castGo (g' := mkF m 0 #[.val (.ref r), .val (.int (2 : Int32))] []) (by first | rfl | (simp [entryFrame, mkF, argsToLocals, Value.category]; done)) ?_
  show Go _ _ _ _ (T0.setTop (mkF m 0 #[.val (.ref r), .val (.int (2 : Int32))] []))
  refine aL X0 hx (hb hby d_jdk_65m119_0) (q := 1) rfl rfl rfl ?_
  refine iL X0 hx (hb hby d_jdk_65m119_1) (q := 2) rfl rfl ?_
  refine aL X0 hx (hb hby d_jdk_65m119_2) (q := 3) rfl rfl rfl ?_
  refine g_gcls X0 hx hZ0 hown0 (wd222 hw) (wd223 hw) (wd87 hw) (wd225 hw) (wd224 hw) (wd226 hw) P2 MO (by rw [hml]; rfl) (by decide) (W := 2) (Nat.le_of_eq rfl) (by decide) e0 (hb hby d_jdk_65m119_3) (q := 6) rfl ?_
  intro T217 X217 e217
  refine g_st X217 hx hZ0 hown0 (wd228 hw) (wd229 hw) (wd220 hw) (wd230 hw) (by decide) e217 (Con.back (W := 0) (rm_cpc2 l Z a0 hw zC SC PC aE SE aD SD aM SM mO MO r kr x0 x1 h0 O0 P1 P2 PX0 PX1) hZ0 (wd230 hw) (wd220 hw) (by decide) (by decide)) (by rw [hml]; rfl) (lenOf pd6 rfl) rfl (Nat.le_of_eq rfl) (hb hby d_jdk_65m119_6) (q := 9) rfl (by decide) (by decide) ?_
  intro v218 T218 L218 X218 Q218
  obtain ⟨c_218, kc_218, rfl, Nq218, K218q, q218_0, q218_1⟩ := Q218
  have N218 := Fr.app N0 Nq218
  show Go _ _ _ _ (T218.setTop (mkF m 9 #[.val (.ref r), .val (.int (2 : Int32))] [(.ref c_218)]))
  have K219 : Keep h0 T218.heap [] := (Keep.refl h0 []).trans K218q all0
  have gh220 : h0.size ≤ c_218 := Nat.le_trans (Nat.le_refl _) q218_0
  refine endP X218 hlk (fun h => by rw [hret] at h; cases h) (lastA X218 hx hret rfl rfl rfl (hb hby d_jdk_65m119_9)) ?_ (by decide) (by decide)
  exact ⟨c_218, kc_218, rfl, N218, K219, gh220, q218_1⟩
def Q_toarr2 (Z : State) (zC : Int32) (aE : Addr) (aD : Addr) (aM : Addr) (mO : Addr) (a1 : Addr) (r : Addr) (kr : ClassId) (x0 : Addr) (x1 : Addr) (h0 : Heap) (v : Option Value) (h : Heap) (L : List Loc) : Prop := ∃ (c : Addr), ∃ (kc : ClassId), v = some (.ref c) ∧ Fr Z.heap.size L ∧ Keep h0 h [] ∧ h0.size ≤ c ∧ Arv Z h c kc (.object "java/lang/Object") (2 : Int32) [(.ref x0), (.ref x1)] .null
theorem rm_toarr2 (l : Launch) (Z : State) (a0 : Array Value) (hw : HW a0 Z) (zC : Int32) (SC : tSC Z zC) (PC : ¬ zC = (0 : Int32)) (aE : Addr) (SE : tSE Z aE) (aD : Addr) (SD : tSD Z aD) (aM : Addr) (SM : tSM Z aM) (mO : Addr) (MO : tMO Z mO) (a1 : Addr) (r : Addr) (kr : ClassId) (x0 : Addr) (x1 : Addr) (h0 : Heap) (O0 : Old Z Z.heap.size h0) (P3 : Exa Z h0 a1 "java/util/ArrayList") (P4 : Fld Z h0 a1 "java/util/ArrayList" "size" "I" (.int (2 : Int32))) (P5 : Fld Z h0 a1 "java/util/ArrayList" "elementData" "[Ljava/lang/Object;" (.ref r)) (P1 : Arv Z h0 r kr (.object "java/lang/Object") (10 : Int32) [(.ref x0), (.ref x1), .null, .null, .null, .null, .null, .null, .null, .null] .null) (P2 : Exa Z h0 r "[Ljava/lang/Object;") (PX0 : Exa Z h0 x0 "com/example/quaymark/quaymark/Review$LeftOut") (PX1 : Exa Z h0 x1 "com/example/quaymark/quaymark/Review$LeftOut") :
    Con l Z (⟨"java/util/ArrayList", "toArray", "()[Ljava/lang/Object;"⟩ : MethodName) jdk_38_method_16_code 1 (some (.array (.object "java/lang/Object"))) ({ frames := 3, cells := 1, slots := 2, locals := 59 } : Room) #[(.ref a1)] h0 (Q_toarr2 Z zC aE aD aM mO a1 r kr x0 x1 h0) := by
  refine Con.intro (plainFor_of_name pn4) ?_
  intro p e s m below meth c T0 X0 hx hby hml hown0 hnm hret hlk hZ0 e0
  have N0 := Fr.nil Z.heap.size
  refine castGo (g' := mkF m 0 #[.val (.ref a1)] []) (by first | rfl | (simp [entryFrame, mkF, argsToLocals, Value.category]; done)) ?_
  show Go _ _ _ _ (T0.setTop (mkF m 0 #[.val (.ref a1)] []))
  refine aL X0 hx (hb hby d_jdk_38m16_0) (q := 1) rfl rfl rfl ?_
  refine g_getF X0 hx hZ0 hown0 (host := "") (Or.inl (wd66 hw)) Via.refl P5 e0 (hb hby d_jdk_38m16_1) (q := 4) rfl ?_
  intro T221 X221 e221
  refine aL X221 hx (hb hby d_jdk_38m16_4) (q := 5) rfl rfl rfl ?_
  refine g_getF X221 hx hZ0 hown0 (host := "") (Or.inl (wd98 hw)) Via.refl P4 e221 (hb hby d_jdk_38m16_5) (q := 8) rfl ?_
  intro T222 X222 e222
  refine g_st X222 hx hZ0 hown0 (wd218 hw) (wd219 hw) (wd220 hw) (wd221 hw) (by decide) e222 (Con.back (W := 0) (rm_cp2 l Z a0 hw zC SC PC aE SE aD SD aM SM mO MO r kr x0 x1 h0 O0 P1 P2 PX0 PX1) hZ0 (wd221 hw) (wd220 hw) (by decide) (by decide)) (by rw [hml]; rfl) (lenOf pd7 rfl) rfl (Nat.le_of_eq rfl) (hb hby d_jdk_38m16_8) (q := 11) rfl (by decide) (by decide) ?_
  intro v223 T223 L223 X223 Q223
  obtain ⟨c_223, kc_223, rfl, Nq223, K223q, q223_0, q223_1⟩ := Q223
  have N223 := Fr.app N0 Nq223
  show Go _ _ _ _ (T223.setTop (mkF m 11 #[.val (.ref a1)] [(.ref c_223)]))
  have K224 : Keep h0 T223.heap [] := (Keep.refl h0 []).trans K223q all0
  have gh225 : h0.size ≤ c_223 := Nat.le_trans (Nat.le_refl _) q223_0
  refine endP X223 hlk (fun h => by rw [hret] at h; cases h) (lastA X223 hx hret rfl rfl rfl (hb hby d_jdk_38m16_11)) ?_ (by decide) (by decide)
  exact ⟨c_223, kc_223, rfl, N223, K224, gh225, q223_1⟩
theorem d_jdk_47m1_0 : decode jdk_47_method_1_code 0 = .ok (.aload_n 0, 1) := by decide +kernel
theorem d_jdk_47m1_1 : decode jdk_47_method_1_code 1 = .ok (.invokespecial 1, 3) := by decide +kernel
theorem wd262 {a0 : Array Value} {Z : State} (hw : HW a0 Z) : ((Jvm.Cond.methodLink "java/util/ImmutableCollections$AbstractImmutableCollection" (1 : Nat) ({ cls := "java/util/AbstractCollection", name := "<init>", desc := "()V" } : Jvm.MethodName)) : Jvm.Cond).before a0 Z = true := hw _ (List.mem_of_getElem? (i := 262) rfl)
theorem d_jdk_47m1_4 : decode jdk_47_method_1_code 4 = .ok (.return_, 1) := by decide +kernel
def Q_aicinit (Z : State) (zC : Int32) (aE : Addr) (aD : Addr) (aM : Addr) (mO : Addr) (a1 : Addr) (h0 : Heap) (v : Option Value) (h : Heap) (L : List Loc) : Prop := v = none ∧ Fr Z.heap.size L ∧ h = h0
theorem pn10 : plainName "java/util/ImmutableCollections$AbstractImmutableCollection" = true := by first | (simp [plainName, overriddenIn]; done) | decide +kernel
theorem rm_aicinit (l : Launch) (Z : State) (a0 : Array Value) (hw : HW a0 Z) (zC : Int32) (SC : tSC Z zC) (PC : ¬ zC = (0 : Int32)) (aE : Addr) (SE : tSE Z aE) (aD : Addr) (SD : tSD Z aD) (aM : Addr) (SM : tSM Z aM) (mO : Addr) (MO : tMO Z mO) (a1 : Addr) (h0 : Heap) (O0 : Old Z Z.heap.size h0)  :
    Con l Z (⟨"java/util/ImmutableCollections$AbstractImmutableCollection", "<init>", "()V"⟩ : MethodName) jdk_47_method_1_code 1 none ({ frames := 2, cells := 0, slots := 0, locals := 24 } : Room) #[(.ref a1)] h0 (Q_aicinit Z zC aE aD aM mO a1 h0) := by
  refine Con.intro (plainFor_of_name pn10) ?_
  intro p e s m below meth c T0 X0 hx hby hml hown0 hnm hret hlk hZ0 e0
  have N0 := Fr.nil Z.heap.size
  refine castGo (g' := mkF m 0 #[.val (.ref a1)] []) (by first | rfl | (simp [entryFrame, mkF, argsToLocals, Value.category]; done)) ?_
  show Go _ _ _ _ (T0.setTop (mkF m 0 #[.val (.ref a1)] []))
  refine aL X0 hx (hb hby d_jdk_47m1_0) (q := 1) rfl rfl rfl ?_
  refine g_sp X0 hx hZ0 hown0 (wd262 hw) (wd57 hw) (wd61 hw) rfl (by decide) e0 (Con.back (W := 0) (rm_abcinit l Z a0 hw zC SC PC aE SE aD SD aM SM mO MO a1 h0 O0 ) hZ0 (wd61 hw) (wd60 hw) (by decide) (by decide)) (by rw [hml]; rfl) (lenOf pd1 rfl) rfl (Nat.le_of_eq rfl) (hb hby d_jdk_47m1_1) (q := 4) rfl (by decide) (by decide) ?_
  intro v226 T226 L226 X226 Q226
  obtain ⟨rfl, Nq226, e226⟩ := Q226
  have N226 := Fr.app N0 Nq226
  show Go _ _ _ _ (T226.setTop (mkF m 4 #[.val (.ref a1)] []))
  refine endP X226 hlk (fun _ => rfl) (lastV X226 hx hret (hb hby d_jdk_47m1_4)) ?_ (by decide) (by decide)
  rw [e226]
  exact ⟨rfl, N226, rfl⟩
theorem d_jdk_46m1_0 : decode jdk_46_method_1_code 0 = .ok (.aload_n 0, 1) := by decide +kernel
theorem d_jdk_46m1_1 : decode jdk_46_method_1_code 1 = .ok (.invokespecial 1, 3) := by decide +kernel
theorem wd261 {a0 : Array Value} {Z : State} (hw : HW a0 Z) : ((Jvm.Cond.code ({ cls := "java/util/ImmutableCollections$AbstractImmutableCollection", name := "<init>", desc := "()V" } : Jvm.MethodName) jdk_47_method_1_code (1 : Nat) (Option.none : Option Jvm.ClassFile.FieldType)) : Jvm.Cond).before a0 Z = true := hw _ (List.mem_of_getElem? (i := 261) rfl)
theorem wd260 {a0 : Array Value} {Z : State} (hw : HW a0 Z) : ((Jvm.Cond.initialized "java/util/ImmutableCollections$AbstractImmutableCollection") : Jvm.Cond).before a0 Z = true := hw _ (List.mem_of_getElem? (i := 260) rfl)
theorem wd256 {a0 : Array Value} {Z : State} (hw : HW a0 Z) : ((Jvm.Cond.methodLink "java/util/ImmutableCollections$AbstractImmutableList" (1 : Nat) ({ cls := "java/util/ImmutableCollections$AbstractImmutableCollection", name := "<init>", desc := "()V" } : Jvm.MethodName)) : Jvm.Cond).before a0 Z = true := hw _ (List.mem_of_getElem? (i := 256) rfl)
theorem wd257 {a0 : Array Value} {Z : State} (hw : HW a0 Z) : ((Jvm.Cond.instanceMethod ({ cls := "java/util/ImmutableCollections$AbstractImmutableCollection", name := "<init>", desc := "()V" } : Jvm.MethodName)) : Jvm.Cond).before a0 Z = true := hw _ (List.mem_of_getElem? (i := 257) rfl)
theorem d_jdk_46m1_4 : decode jdk_46_method_1_code 4 = .ok (.return_, 1) := by decide +kernel
def Q_ailinit (Z : State) (zC : Int32) (aE : Addr) (aD : Addr) (aM : Addr) (mO : Addr) (a1 : Addr) (h0 : Heap) (v : Option Value) (h : Heap) (L : List Loc) : Prop := v = none ∧ Fr Z.heap.size L ∧ h = h0
theorem pn11 : plainName "java/util/ImmutableCollections$AbstractImmutableList" = true := by first | (simp [plainName, overriddenIn]; done) | decide +kernel
theorem rm_ailinit (l : Launch) (Z : State) (a0 : Array Value) (hw : HW a0 Z) (zC : Int32) (SC : tSC Z zC) (PC : ¬ zC = (0 : Int32)) (aE : Addr) (SE : tSE Z aE) (aD : Addr) (SD : tSD Z aD) (aM : Addr) (SM : tSM Z aM) (mO : Addr) (MO : tMO Z mO) (a1 : Addr) (h0 : Heap) (O0 : Old Z Z.heap.size h0)  :
    Con l Z (⟨"java/util/ImmutableCollections$AbstractImmutableList", "<init>", "()V"⟩ : MethodName) jdk_46_method_1_code 1 none ({ frames := 3, cells := 0, slots := 0, locals := 36 } : Room) #[(.ref a1)] h0 (Q_ailinit Z zC aE aD aM mO a1 h0) := by
  refine Con.intro (plainFor_of_name pn11) ?_
  intro p e s m below meth c T0 X0 hx hby hml hown0 hnm hret hlk hZ0 e0
  have N0 := Fr.nil Z.heap.size
  refine castGo (g' := mkF m 0 #[.val (.ref a1)] []) (by first | rfl | (simp [entryFrame, mkF, argsToLocals, Value.category]; done)) ?_
  show Go _ _ _ _ (T0.setTop (mkF m 0 #[.val (.ref a1)] []))
  refine aL X0 hx (hb hby d_jdk_46m1_0) (q := 1) rfl rfl rfl ?_
  refine g_sp X0 hx hZ0 hown0 (wd256 hw) (wd257 hw) (wd261 hw) rfl (by decide) e0 (Con.back (W := 0) (rm_aicinit l Z a0 hw zC SC PC aE SE aD SD aM SM mO MO a1 h0 O0 ) hZ0 (wd261 hw) (wd260 hw) (by decide) (by decide)) (by rw [hml]; rfl) (lenOf pd1 rfl) rfl (Nat.le_of_eq rfl) (hb hby d_jdk_46m1_1) (q := 4) rfl (by decide) (by decide) ?_
  intro v227 T227 L227 X227 Q227
  obtain ⟨rfl, Nq227, e227⟩ := Q227
  have N227 := Fr.app N0 Nq227
  show Go _ _ _ _ (T227.setTop (mkF m 4 #[.val (.ref a1)] []))
  refine endP X227 hlk (fun _ => rfl) (lastV X227 hx hret (hb hby d_jdk_46m1_4)) ?_ (by decide) (by decide)
  rw [e227]
  exact ⟨rfl, N227, rfl⟩
theorem d_jdk_31m10_0 : decode jdk_31_method_10_code 0 = .ok (.aload_n 0, 1) := by decide +kernel
theorem d_jdk_31m10_1 : decode jdk_31_method_10_code 1 = .ok (.ifnonnull 11, 3) := by decide +kernel
theorem d_jdk_31m10_12 : decode jdk_31_method_10_code 12 = .ok (.aload_n 0, 1) := by decide +kernel
theorem d_jdk_31m10_13 : decode jdk_31_method_10_code 13 = .ok (.areturn, 1) := by decide +kernel
def Q_rnn1 (Z : State) (zC : Int32) (aE : Addr) (aD : Addr) (aM : Addr) (mO : Addr) (a1 : Addr) (h0 : Heap) (v : Option Value) (h : Heap) (L : List Loc) : Prop := v = some (.ref a1) ∧ Fr Z.heap.size L ∧ h = h0
theorem pn12 : plainName "java/util/Objects" = true := by first | (simp [plainName, overriddenIn]; done) | decide +kernel
theorem rm_rnn1 (l : Launch) (Z : State) (a0 : Array Value) (hw : HW a0 Z) (zC : Int32) (SC : tSC Z zC) (PC : ¬ zC = (0 : Int32)) (aE : Addr) (SE : tSE Z aE) (aD : Addr) (SD : tSD Z aD) (aM : Addr) (SM : tSM Z aM) (mO : Addr) (MO : tMO Z mO) (a1 : Addr) (h0 : Heap) (O0 : Old Z Z.heap.size h0)  :
    Con l Z (⟨"java/util/Objects", "requireNonNull", "(Ljava/lang/Object;)Ljava/lang/Object;"⟩ : MethodName) jdk_31_method_10_code 1 (some (.object "java/lang/Object")) ({ frames := 0, cells := 0, slots := 0, locals := 0 } : Room) #[(.ref a1)] h0 (Q_rnn1 Z zC aE aD aM mO a1 h0) := by
  refine Con.intro (plainFor_of_name pn12) ?_
  intro p e s m below meth c T0 X0 hx hby hml hown0 hnm hret hlk hZ0 e0
  have N0 := Fr.nil Z.heap.size
  refine castGo (g' := mkF m 0 #[.val (.ref a1)] []) (by first | rfl | (simp [entryFrame, mkF, argsToLocals, Value.category]; done)) ?_
  show Go _ _ _ _ (T0.setTop (mkF m 0 #[.val (.ref a1)] []))
  refine aL X0 hx (hb hby d_jdk_31m10_0) (q := 1) rfl rfl rfl ?_
  refine nnY X0 hx (hb hby d_jdk_31m10_1) (q := 12) (by decide) (by decide) ?_
  refine aL X0 hx (hb hby d_jdk_31m10_12) (q := 13) rfl rfl rfl ?_
  refine endP X0 hlk (fun h => by rw [hret] at h; cases h) (lastA X0 hx hret rfl rfl rfl (hb hby d_jdk_31m10_13)) ?_ (by decide) (by decide)
  rw [e0]
  exact ⟨rfl, N0, rfl⟩
theorem d_jdk_44m1_0 : decode jdk_44_method_1_code 0 = .ok (.aload_n 0, 1) := by decide +kernel
theorem d_jdk_44m1_1 : decode jdk_44_method_1_code 1 = .ok (.invokespecial 1, 3) := by decide +kernel
theorem wd255 {a0 : Array Value} {Z : State} (hw : HW a0 Z) : ((Jvm.Cond.code ({ cls := "java/util/ImmutableCollections$AbstractImmutableList", name := "<init>", desc := "()V" } : Jvm.MethodName) jdk_46_method_1_code (1 : Nat) (Option.none : Option Jvm.ClassFile.FieldType)) : Jvm.Cond).before a0 Z = true := hw _ (List.mem_of_getElem? (i := 255) rfl)
theorem wd254 {a0 : Array Value} {Z : State} (hw : HW a0 Z) : ((Jvm.Cond.initialized "java/util/ImmutableCollections$AbstractImmutableList") : Jvm.Cond).before a0 Z = true := hw _ (List.mem_of_getElem? (i := 254) rfl)
theorem wd250 {a0 : Array Value} {Z : State} (hw : HW a0 Z) : ((Jvm.Cond.methodLink "java/util/ImmutableCollections$List12" (1 : Nat) ({ cls := "java/util/ImmutableCollections$AbstractImmutableList", name := "<init>", desc := "()V" } : Jvm.MethodName)) : Jvm.Cond).before a0 Z = true := hw _ (List.mem_of_getElem? (i := 250) rfl)
theorem wd251 {a0 : Array Value} {Z : State} (hw : HW a0 Z) : ((Jvm.Cond.instanceMethod ({ cls := "java/util/ImmutableCollections$AbstractImmutableList", name := "<init>", desc := "()V" } : Jvm.MethodName)) : Jvm.Cond).before a0 Z = true := hw _ (List.mem_of_getElem? (i := 251) rfl)
theorem d_jdk_44m1_4 : decode jdk_44_method_1_code 4 = .ok (.aload_n 0, 1) := by decide +kernel
theorem d_jdk_44m1_5 : decode jdk_44_method_1_code 5 = .ok (.aload_n 1, 1) := by decide +kernel
theorem d_jdk_44m1_6 : decode jdk_44_method_1_code 6 = .ok (.invokestatic 7, 3) := by decide +kernel
theorem wd267 {a0 : Array Value} {Z : State} (hw : HW a0 Z) : ((Jvm.Cond.code ({ cls := "java/util/Objects", name := "requireNonNull", desc := "(Ljava/lang/Object;)Ljava/lang/Object;" } : Jvm.MethodName) jdk_31_method_10_code (1 : Nat) (Option.some (Jvm.ClassFile.FieldType.object "java/lang/Object"))) : Jvm.Cond).before a0 Z = true := hw _ (List.mem_of_getElem? (i := 267) rfl)
theorem wd266 {a0 : Array Value} {Z : State} (hw : HW a0 Z) : ((Jvm.Cond.initialized "java/util/Objects") : Jvm.Cond).before a0 Z = true := hw _ (List.mem_of_getElem? (i := 266) rfl)
theorem pd8 : parseMethodDescriptor "(Ljava/lang/Object;)Ljava/lang/Object;" = some ⟨[(.object "java/lang/Object")], some (.object "java/lang/Object")⟩ := by decide +kernel
theorem wd264 {a0 : Array Value} {Z : State} (hw : HW a0 Z) : ((Jvm.Cond.methodLink "java/util/ImmutableCollections$List12" (7 : Nat) ({ cls := "java/util/Objects", name := "requireNonNull", desc := "(Ljava/lang/Object;)Ljava/lang/Object;" } : Jvm.MethodName)) : Jvm.Cond).before a0 Z = true := hw _ (List.mem_of_getElem? (i := 264) rfl)
theorem wd265 {a0 : Array Value} {Z : State} (hw : HW a0 Z) : ((Jvm.Cond.static ({ cls := "java/util/Objects", name := "requireNonNull", desc := "(Ljava/lang/Object;)Ljava/lang/Object;" } : Jvm.MethodName)) : Jvm.Cond).before a0 Z = true := hw _ (List.mem_of_getElem? (i := 265) rfl)
theorem d_jdk_44m1_9 : decode jdk_44_method_1_code 9 = .ok (.putfield 13, 3) := by decide +kernel
theorem wd268 {a0 : Array Value} {Z : State} (hw : HW a0 Z) : ((Jvm.Cond.fieldLink "java/util/ImmutableCollections$List12" (13 : Nat) "java/util/ImmutableCollections$List12" "e0" "Ljava/lang/Object;") : Jvm.Cond).before a0 Z = true := hw _ (List.mem_of_getElem? (i := 268) rfl)
theorem wd269 {a0 : Array Value} {Z : State} (hw : HW a0 Z) : ((Jvm.Cond.laysFinal "java/util/ImmutableCollections$List12" "java/util/ImmutableCollections$List12" "e0" "Ljava/lang/Object;") : Jvm.Cond).before a0 Z = true := hw _ (List.mem_of_getElem? (i := 269) rfl)
theorem wd244 {a0 : Array Value} {Z : State} (hw : HW a0 Z) : ((Jvm.Cond.instantiable "java/util/ImmutableCollections$List12" (2 : Nat)) : Jvm.Cond).before a0 Z = true := hw _ (List.mem_of_getElem? (i := 244) rfl)
theorem d_jdk_44m1_12 : decode jdk_44_method_1_code 12 = .ok (.aload_n 0, 1) := by decide +kernel
theorem d_jdk_44m1_13 : decode jdk_44_method_1_code 13 = .ok (.getstatic 19, 3) := by decide +kernel
theorem wd270 {a0 : Array Value} {Z : State} (hw : HW a0 Z) : ((Jvm.Cond.fieldLinkNest "java/util/ImmutableCollections$List12" (19 : Nat) "java/util/ImmutableCollections" "EMPTY" "Ljava/lang/Object;" "java/util/ImmutableCollections") : Jvm.Cond).before a0 Z = true := hw _ (List.mem_of_getElem? (i := 270) rfl)
theorem d_jdk_44m1_16 : decode jdk_44_method_1_code 16 = .ok (.putfield 24, 3) := by decide +kernel
theorem wd271 {a0 : Array Value} {Z : State} (hw : HW a0 Z) : ((Jvm.Cond.fieldLink "java/util/ImmutableCollections$List12" (24 : Nat) "java/util/ImmutableCollections$List12" "e1" "Ljava/lang/Object;") : Jvm.Cond).before a0 Z = true := hw _ (List.mem_of_getElem? (i := 271) rfl)
theorem wd272 {a0 : Array Value} {Z : State} (hw : HW a0 Z) : ((Jvm.Cond.laysFinal "java/util/ImmutableCollections$List12" "java/util/ImmutableCollections$List12" "e1" "Ljava/lang/Object;") : Jvm.Cond).before a0 Z = true := hw _ (List.mem_of_getElem? (i := 272) rfl)
theorem d_jdk_44m1_19 : decode jdk_44_method_1_code 19 = .ok (.return_, 1) := by decide +kernel
def Q_l12a (Z : State) (zC : Int32) (aE : Addr) (aD : Addr) (aM : Addr) (mO : Addr) (a1 : Addr) (x0 : Addr) (h0 : Heap) (v : Option Value) (h : Heap) (L : List Loc) : Prop := v = none ∧ Fr Z.heap.size L ∧ Keep h0 h [a1] ∧ Exa Z h a1 "java/util/ImmutableCollections$List12" ∧ Fld Z h a1 "java/util/ImmutableCollections$List12" "e0" "Ljava/lang/Object;" (.ref x0) ∧ Fld Z h a1 "java/util/ImmutableCollections$List12" "e1" "Ljava/lang/Object;" (.ref aM)
theorem pn13 : plainName "java/util/ImmutableCollections$List12" = true := by first | (simp [plainName, overriddenIn]; done) | decide +kernel
theorem rm_l12a (l : Launch) (Z : State) (a0 : Array Value) (hw : HW a0 Z) (zC : Int32) (SC : tSC Z zC) (PC : ¬ zC = (0 : Int32)) (aE : Addr) (SE : tSE Z aE) (aD : Addr) (SD : tSD Z aD) (aM : Addr) (SM : tSM Z aM) (mO : Addr) (MO : tMO Z mO) (a1 : Addr) (x0 : Addr) (h0 : Heap) (O0 : Old Z Z.heap.size h0) (P1 : Exa Z h0 a1 "java/util/ImmutableCollections$List12") (P2 : Fld Z h0 a1 "java/util/ImmutableCollections$List12" "e0" "Ljava/lang/Object;" .null) (P3 : Fld Z h0 a1 "java/util/ImmutableCollections$List12" "e1" "Ljava/lang/Object;" .null) (P4 : Z.heap.size ≤ a1) :
    Con l Z (⟨"java/util/ImmutableCollections$List12", "<init>", "(Ljava/lang/Object;)V"⟩ : MethodName) jdk_44_method_1_code 2 none ({ frames := 4, cells := 0, slots := 0, locals := 48 } : Room) #[(.ref a1), (.ref x0)] h0 (Q_l12a Z zC aE aD aM mO a1 x0 h0) := by
  refine Con.intro (plainFor_of_name pn13) ?_
  intro p e s m below meth c T0 X0 hx hby hml hown0 hnm hret hlk hZ0 e0
  have N0 := Fr.nil Z.heap.size
  refine castGo (g' := mkF m 0 #[.val (.ref a1), .val (.ref x0)] []) (by first | rfl | (simp [entryFrame, mkF, argsToLocals, Value.category]; done)) ?_
  show Go _ _ _ _ (T0.setTop (mkF m 0 #[.val (.ref a1), .val (.ref x0)] []))
  refine aL X0 hx (hb hby d_jdk_44m1_0) (q := 1) rfl rfl rfl ?_
  refine g_sp X0 hx hZ0 hown0 (wd250 hw) (wd251 hw) (wd255 hw) rfl (by decide) e0 (Con.back (W := 0) (rm_ailinit l Z a0 hw zC SC PC aE SE aD SD aM SM mO MO a1 h0 O0 ) hZ0 (wd255 hw) (wd254 hw) (by decide) (by decide)) (by rw [hml]; rfl) (lenOf pd1 rfl) rfl (Nat.le_of_eq rfl) (hb hby d_jdk_44m1_1) (q := 4) rfl (by decide) (by decide) ?_
  intro v228 T228 L228 X228 Q228
  obtain ⟨rfl, Nq228, e228⟩ := Q228
  have N228 := Fr.app N0 Nq228
  show Go _ _ _ _ (T228.setTop (mkF m 4 #[.val (.ref a1), .val (.ref x0)] []))
  refine aL X228 hx (hb hby d_jdk_44m1_4) (q := 5) rfl rfl rfl ?_
  refine aL X228 hx (hb hby d_jdk_44m1_5) (q := 6) rfl rfl rfl ?_
  refine g_st X228 hx hZ0 hown0 (wd264 hw) (wd265 hw) (wd266 hw) (wd267 hw) (by decide) e228 (Con.back (W := 1) (rm_rnn1 l Z a0 hw zC SC PC aE SE aD SD aM SM mO MO x0 h0 O0 ) hZ0 (wd267 hw) (wd266 hw) (by decide) (by decide)) (by rw [hml]; rfl) (lenOf pd8 rfl) rfl (Nat.le_of_eq rfl) (hb hby d_jdk_44m1_6) (q := 9) rfl (by decide) (by decide) ?_
  intro v229 T229 L229 X229 Q229
  obtain ⟨rfl, Nq229, e229⟩ := Q229
  have N229 := Fr.app N228 Nq229
  show Go _ _ _ _ (T229.setTop (mkF m 9 #[.val (.ref a1), .val (.ref x0)] [(.ref x0), (.ref a1)]))
  refine g_putF X229 hx hZ0 hown0 (host := "") (Or.inl (wd268 hw)) Via.refl P2 P1 (Or.inr ⟨(wd269 hw), rfl, hnm⟩) (wd244 hw) (ty := (.object "java/lang/Object")) (by decide) rfl rfl e229 (hb hby d_jdk_44m1_9) (q := 12) rfl ?_
  intro T230 h230 X230 e230 W230
  have N230 := Fr.snoc X230 N229 P4
  have Fw230 : Fld Z h230 a1 "java/util/ImmutableCollections$List12" "e0" "Ljava/lang/Object;" (.ref x0) := P2.same W230
  refine aL X230 hx (hb hby d_jdk_44m1_12) (q := 13) rfl rfl rfl ?_
  have f232 : Old Z Z.heap.size h230 := O0.wr W230 P4
  refine g_getS X230 hx hZ0 hown0 (Or.inr (wd270 hw)) Via.refl (SM.ext f232.2) e230 (hb hby d_jdk_44m1_13) (q := 16) rfl ?_
  intro T231 X231 e231
  have f233 : Fld Z h230 a1 "java/util/ImmutableCollections$List12" "e1" "Ljava/lang/Object;" .null := P3.other W230 (Or.inr (slot_ne (Or.inr (wd272 hw)) (Or.inr (wd269 hw)) (by decide) (t := (.object "java/lang/Object")) (t' := (.object "java/lang/Object")) (by decide) (by decide)))
  have f234 : Exa Z h230 a1 "java/util/ImmutableCollections$List12" := P1.wr W230
  refine g_putF X231 hx hZ0 hown0 (host := "") (Or.inl (wd271 hw)) Via.refl f233 f234 (Or.inr ⟨(wd272 hw), rfl, hnm⟩) (wd244 hw) (ty := (.object "java/lang/Object")) (by decide) rfl rfl e231 (hb hby d_jdk_44m1_16) (q := 19) rfl ?_
  intro T235 h235 X235 e235 W235
  have N235 := Fr.snoc X235 N230 P4
  have Fw235 : Fld Z h235 a1 "java/util/ImmutableCollections$List12" "e1" "Ljava/lang/Object;" (.ref aM) := f233.same W235
  have K236 : Keep h0 h230 [a1] := (Keep.refl h0 [a1]).wr W230 (Or.inl (by simp))
  have K237 : Keep h0 h235 [a1] := K236.wr W235 (Or.inl (by simp))
  have f238 : Exa Z h235 a1 "java/util/ImmutableCollections$List12" := f234.wr W235
  have f239 : Fld Z h235 a1 "java/util/ImmutableCollections$List12" "e0" "Ljava/lang/Object;" (.ref x0) := Fw230.other W235 (Or.inr (slot_ne (Or.inr (wd269 hw)) (Or.inr (wd272 hw)) (by decide) (t := (.object "java/lang/Object")) (t' := (.object "java/lang/Object")) (by decide) (by decide)))
  refine endP X235 hlk (fun _ => rfl) (lastV X235 hx hret (hb hby d_jdk_44m1_19)) ?_ (by decide) (by decide)
  rw [e235]
  exact ⟨rfl, N235, K237, f238, f239, Fw235⟩
theorem d_jdk_44m2_0 : decode jdk_44_method_2_code 0 = .ok (.aload_n 0, 1) := by decide +kernel
theorem d_jdk_44m2_1 : decode jdk_44_method_2_code 1 = .ok (.invokespecial 1, 3) := by decide +kernel
theorem d_jdk_44m2_4 : decode jdk_44_method_2_code 4 = .ok (.aload_n 0, 1) := by decide +kernel
theorem d_jdk_44m2_5 : decode jdk_44_method_2_code 5 = .ok (.aload_n 1, 1) := by decide +kernel
theorem d_jdk_44m2_6 : decode jdk_44_method_2_code 6 = .ok (.invokestatic 7, 3) := by decide +kernel
theorem d_jdk_44m2_9 : decode jdk_44_method_2_code 9 = .ok (.putfield 13, 3) := by decide +kernel
theorem d_jdk_44m2_12 : decode jdk_44_method_2_code 12 = .ok (.aload_n 0, 1) := by decide +kernel
theorem d_jdk_44m2_13 : decode jdk_44_method_2_code 13 = .ok (.aload_n 2, 1) := by decide +kernel
theorem d_jdk_44m2_14 : decode jdk_44_method_2_code 14 = .ok (.invokestatic 7, 3) := by decide +kernel
theorem d_jdk_44m2_17 : decode jdk_44_method_2_code 17 = .ok (.putfield 24, 3) := by decide +kernel
theorem d_jdk_44m2_20 : decode jdk_44_method_2_code 20 = .ok (.return_, 1) := by decide +kernel
def Q_l12b (Z : State) (zC : Int32) (aE : Addr) (aD : Addr) (aM : Addr) (mO : Addr) (a1 : Addr) (x0 : Addr) (x1 : Addr) (h0 : Heap) (v : Option Value) (h : Heap) (L : List Loc) : Prop := v = none ∧ Fr Z.heap.size L ∧ Keep h0 h [a1] ∧ Exa Z h a1 "java/util/ImmutableCollections$List12" ∧ Fld Z h a1 "java/util/ImmutableCollections$List12" "e0" "Ljava/lang/Object;" (.ref x0) ∧ Fld Z h a1 "java/util/ImmutableCollections$List12" "e1" "Ljava/lang/Object;" (.ref x1)
theorem rm_l12b (l : Launch) (Z : State) (a0 : Array Value) (hw : HW a0 Z) (zC : Int32) (SC : tSC Z zC) (PC : ¬ zC = (0 : Int32)) (aE : Addr) (SE : tSE Z aE) (aD : Addr) (SD : tSD Z aD) (aM : Addr) (SM : tSM Z aM) (mO : Addr) (MO : tMO Z mO) (a1 : Addr) (x0 : Addr) (x1 : Addr) (h0 : Heap) (O0 : Old Z Z.heap.size h0) (P1 : Exa Z h0 a1 "java/util/ImmutableCollections$List12") (P2 : Fld Z h0 a1 "java/util/ImmutableCollections$List12" "e0" "Ljava/lang/Object;" .null) (P3 : Fld Z h0 a1 "java/util/ImmutableCollections$List12" "e1" "Ljava/lang/Object;" .null) (P4 : Z.heap.size ≤ a1) :
    Con l Z (⟨"java/util/ImmutableCollections$List12", "<init>", "(Ljava/lang/Object;Ljava/lang/Object;)V"⟩ : MethodName) jdk_44_method_2_code 3 none ({ frames := 4, cells := 0, slots := 0, locals := 48 } : Room) #[(.ref a1), (.ref x0), (.ref x1)] h0 (Q_l12b Z zC aE aD aM mO a1 x0 x1 h0) := by
  refine Con.intro (plainFor_of_name pn13) ?_
  intro p e s m below meth c T0 X0 hx hby hml hown0 hnm hret hlk hZ0 e0
  have N0 := Fr.nil Z.heap.size
  refine castGo (g' := mkF m 0 #[.val (.ref a1), .val (.ref x0), .val (.ref x1)] []) (by first | rfl | (simp [entryFrame, mkF, argsToLocals, Value.category]; done)) ?_
  show Go _ _ _ _ (T0.setTop (mkF m 0 #[.val (.ref a1), .val (.ref x0), .val (.ref x1)] []))
  refine aL X0 hx (hb hby d_jdk_44m2_0) (q := 1) rfl rfl rfl ?_
  refine g_sp X0 hx hZ0 hown0 (wd250 hw) (wd251 hw) (wd255 hw) rfl (by decide) e0 (Con.back (W := 0) (rm_ailinit l Z a0 hw zC SC PC aE SE aD SD aM SM mO MO a1 h0 O0 ) hZ0 (wd255 hw) (wd254 hw) (by decide) (by decide)) (by rw [hml]; rfl) (lenOf pd1 rfl) rfl (Nat.le_of_eq rfl) (hb hby d_jdk_44m2_1) (q := 4) rfl (by decide) (by decide) ?_
  intro v240 T240 L240 X240 Q240
  obtain ⟨rfl, Nq240, e240⟩ := Q240
  have N240 := Fr.app N0 Nq240
  show Go _ _ _ _ (T240.setTop (mkF m 4 #[.val (.ref a1), .val (.ref x0), .val (.ref x1)] []))
  refine aL X240 hx (hb hby d_jdk_44m2_4) (q := 5) rfl rfl rfl ?_
  refine aL X240 hx (hb hby d_jdk_44m2_5) (q := 6) rfl rfl rfl ?_
  refine g_st X240 hx hZ0 hown0 (wd264 hw) (wd265 hw) (wd266 hw) (wd267 hw) (by decide) e240 (Con.back (W := 1) (rm_rnn1 l Z a0 hw zC SC PC aE SE aD SD aM SM mO MO x0 h0 O0 ) hZ0 (wd267 hw) (wd266 hw) (by decide) (by decide)) (by rw [hml]; rfl) (lenOf pd8 rfl) rfl (Nat.le_of_eq rfl) (hb hby d_jdk_44m2_6) (q := 9) rfl (by decide) (by decide) ?_
  intro v241 T241 L241 X241 Q241
  obtain ⟨rfl, Nq241, e241⟩ := Q241
  have N241 := Fr.app N240 Nq241
  show Go _ _ _ _ (T241.setTop (mkF m 9 #[.val (.ref a1), .val (.ref x0), .val (.ref x1)] [(.ref x0), (.ref a1)]))
  refine g_putF X241 hx hZ0 hown0 (host := "") (Or.inl (wd268 hw)) Via.refl P2 P1 (Or.inr ⟨(wd269 hw), rfl, hnm⟩) (wd244 hw) (ty := (.object "java/lang/Object")) (by decide) rfl rfl e241 (hb hby d_jdk_44m2_9) (q := 12) rfl ?_
  intro T242 h242 X242 e242 W242
  have N242 := Fr.snoc X242 N241 P4
  have Fw242 : Fld Z h242 a1 "java/util/ImmutableCollections$List12" "e0" "Ljava/lang/Object;" (.ref x0) := P2.same W242
  refine aL X242 hx (hb hby d_jdk_44m2_12) (q := 13) rfl rfl rfl ?_
  refine aL X242 hx (hb hby d_jdk_44m2_13) (q := 14) rfl rfl rfl ?_
  have f244 : Old Z Z.heap.size h242 := O0.wr W242 P4
  refine g_st X242 hx hZ0 hown0 (wd264 hw) (wd265 hw) (wd266 hw) (wd267 hw) (by decide) e242 (Con.back (W := 1) (rm_rnn1 l Z a0 hw zC SC PC aE SE aD SD aM SM mO MO x1 h242 f244 ) hZ0 (wd267 hw) (wd266 hw) (by decide) (by decide)) (by rw [hml]; rfl) (lenOf pd8 rfl) rfl (Nat.le_of_eq rfl) (hb hby d_jdk_44m2_14) (q := 17) rfl (by decide) (by decide) ?_
  intro v243 T243 L243 X243 Q243
  obtain ⟨rfl, Nq243, e243⟩ := Q243
  have N243 := Fr.app N242 Nq243
  show Go _ _ _ _ (T243.setTop (mkF m 17 #[.val (.ref a1), .val (.ref x0), .val (.ref x1)] [(.ref x1), (.ref a1)]))
  have f245 : Fld Z h242 a1 "java/util/ImmutableCollections$List12" "e1" "Ljava/lang/Object;" .null := P3.other W242 (Or.inr (slot_ne (Or.inr (wd272 hw)) (Or.inr (wd269 hw)) (by decide) (t := (.object "java/lang/Object")) (t' := (.object "java/lang/Object")) (by decide) (by decide)))
  have f246 : Exa Z h242 a1 "java/util/ImmutableCollections$List12" := P1.wr W242
  refine g_putF X243 hx hZ0 hown0 (host := "") (Or.inl (wd271 hw)) Via.refl f245 f246 (Or.inr ⟨(wd272 hw), rfl, hnm⟩) (wd244 hw) (ty := (.object "java/lang/Object")) (by decide) rfl rfl e243 (hb hby d_jdk_44m2_17) (q := 20) rfl ?_
  intro T247 h247 X247 e247 W247
  have N247 := Fr.snoc X247 N243 P4
  have Fw247 : Fld Z h247 a1 "java/util/ImmutableCollections$List12" "e1" "Ljava/lang/Object;" (.ref x1) := f245.same W247
  have K248 : Keep h0 h242 [a1] := (Keep.refl h0 [a1]).wr W242 (Or.inl (by simp))
  have K249 : Keep h0 h247 [a1] := K248.wr W247 (Or.inl (by simp))
  have f250 : Exa Z h247 a1 "java/util/ImmutableCollections$List12" := f246.wr W247
  have f251 : Fld Z h247 a1 "java/util/ImmutableCollections$List12" "e0" "Ljava/lang/Object;" (.ref x0) := Fw242.other W247 (Or.inr (slot_ne (Or.inr (wd269 hw)) (Or.inr (wd272 hw)) (by decide) (t := (.object "java/lang/Object")) (t' := (.object "java/lang/Object")) (by decide) (by decide)))
  refine endP X247 hlk (fun _ => rfl) (lastV X247 hx hret (hb hby d_jdk_44m2_20)) ?_ (by decide) (by decide)
  rw [e247]
  exact ⟨rfl, N247, K249, f250, f251, Fw247⟩
theorem d_jdk_40m47_0 : decode jdk_40_method_47_code 0 = .ok (.aload_n 0, 1) := by decide +kernel
theorem d_jdk_40m47_1 : decode jdk_40_method_47_code 1 = .ok (.arraylength, 1) := by decide +kernel
theorem d_jdk_40m47_2 : decode jdk_40_method_47_code 2 = .ok (.tableswitch 57 0 2 #[26, 32, 43], 26) := by decide +kernel
theorem d_jdk_40m47_34 : decode jdk_40_method_47_code 34 = .ok (.new 96, 3) := by decide +kernel
theorem wd243 {a0 : Array Value} {Z : State} (hw : HW a0 Z) : ((Jvm.Cond.classLink "java/util/List" (96 : Nat) "java/util/ImmutableCollections$List12") : Jvm.Cond).before a0 Z = true := hw _ (List.mem_of_getElem? (i := 243) rfl)
theorem wd245 {a0 : Array Value} {Z : State} (hw : HW a0 Z) : ((Jvm.Cond.initialized "java/util/ImmutableCollections$List12") : Jvm.Cond).before a0 Z = true := hw _ (List.mem_of_getElem? (i := 245) rfl)
theorem d_jdk_40m47_37 : decode jdk_40_method_47_code 37 = .ok (.dup, 1) := by decide +kernel
theorem d_jdk_40m47_38 : decode jdk_40_method_47_code 38 = .ok (.aload_n 0, 1) := by decide +kernel
theorem d_jdk_40m47_39 : decode jdk_40_method_47_code 39 = .ok (.iconst 0, 1) := by decide +kernel
theorem d_jdk_40m47_40 : decode jdk_40_method_47_code 40 = .ok (.aaload, 1) := by decide +kernel
theorem d_jdk_40m47_41 : decode jdk_40_method_47_code 41 = .ok (.invokespecial 98, 3) := by decide +kernel
theorem wd249 {a0 : Array Value} {Z : State} (hw : HW a0 Z) : ((Jvm.Cond.code ({ cls := "java/util/ImmutableCollections$List12", name := "<init>", desc := "(Ljava/lang/Object;)V" } : Jvm.MethodName) jdk_44_method_1_code (2 : Nat) (Option.none : Option Jvm.ClassFile.FieldType)) : Jvm.Cond).before a0 Z = true := hw _ (List.mem_of_getElem? (i := 249) rfl)
theorem pd9 : parseMethodDescriptor "(Ljava/lang/Object;)V" = some ⟨[(.object "java/lang/Object")], none⟩ := by decide +kernel
theorem wd246 {a0 : Array Value} {Z : State} (hw : HW a0 Z) : ((Jvm.Cond.methodLink "java/util/List" (98 : Nat) ({ cls := "java/util/ImmutableCollections$List12", name := "<init>", desc := "(Ljava/lang/Object;)V" } : Jvm.MethodName)) : Jvm.Cond).before a0 Z = true := hw _ (List.mem_of_getElem? (i := 246) rfl)
theorem wd247 {a0 : Array Value} {Z : State} (hw : HW a0 Z) : ((Jvm.Cond.instanceMethod ({ cls := "java/util/ImmutableCollections$List12", name := "<init>", desc := "(Ljava/lang/Object;)V" } : Jvm.MethodName)) : Jvm.Cond).before a0 Z = true := hw _ (List.mem_of_getElem? (i := 247) rfl)
theorem d_jdk_40m47_44 : decode jdk_40_method_47_code 44 = .ok (.areturn, 1) := by decide +kernel
def Q_ofa1 (Z : State) (zC : Int32) (aE : Addr) (aD : Addr) (aM : Addr) (mO : Addr) (ca : Addr) (kc : ClassId) (x0 : Addr) (h0 : Heap) (v : Option Value) (h : Heap) (L : List Loc) : Prop := ∃ (q : Addr), v = some (.ref q) ∧ Fr Z.heap.size L ∧ Keep h0 h [] ∧ h0.size ≤ q ∧ Exa Z h q "java/util/ImmutableCollections$List12" ∧ Fld Z h q "java/util/ImmutableCollections$List12" "e0" "Ljava/lang/Object;" (.ref x0) ∧ Fld Z h q "java/util/ImmutableCollections$List12" "e1" "Ljava/lang/Object;" (.ref aM)
theorem pn14 : plainName "java/util/List" = true := by first | (simp [plainName, overriddenIn]; done) | decide +kernel
theorem rm_ofa1 (l : Launch) (Z : State) (a0 : Array Value) (hw : HW a0 Z) (zC : Int32) (SC : tSC Z zC) (PC : ¬ zC = (0 : Int32)) (aE : Addr) (SE : tSE Z aE) (aD : Addr) (SD : tSD Z aD) (aM : Addr) (SM : tSM Z aM) (mO : Addr) (MO : tMO Z mO) (ca : Addr) (kc : ClassId) (x0 : Addr) (h0 : Heap) (O0 : Old Z Z.heap.size h0) (P1 : Arv Z h0 ca kc (.object "java/lang/Object") (1 : Int32) [(.ref x0)] .null) :
    Con l Z (⟨"java/util/List", "of", "([Ljava/lang/Object;)Ljava/util/List;"⟩ : MethodName) jdk_40_method_47_code 2 (some (.object "java/util/List")) ({ frames := 5, cells := 1, slots := 2, locals := 62 } : Room) #[(.ref ca)] h0 (Q_ofa1 Z zC aE aD aM mO ca kc x0 h0) := by
  refine Con.intro (plainFor_of_name pn14) ?_
  intro p e s m below meth c T0 X0 hx hby hml hown0 hnm hret hlk hZ0 e0
  have N0 := Fr.nil Z.heap.size
  refine castGo (g' := mkF m 0 #[.val (.ref ca), .unset] []) (by first | rfl | (simp [entryFrame, mkF, argsToLocals, Value.category]; done)) ?_
  show Go _ _ _ _ (T0.setTop (mkF m 0 #[.val (.ref ca), .unset] []))
  refine aL X0 hx (hb hby d_jdk_40m47_0) (q := 1) rfl rfl rfl ?_
  refine g_len X0 hx hZ0 P1 e0 (hb hby d_jdk_40m47_1) (q := 2) rfl ?_
  refine g_tsw X0 hx (j := (32 : Int)) (hb hby d_jdk_40m47_2) (q := 34) (by decide) (by decide) (by decide) (by decide) ?_
  refine g_new X0 hx hZ0 hown0 (wd243 hw) (wd244 hw) (wd245 hw) (by decide) (by decide) e0 (hb hby d_jdk_40m47_34) (q := 37) rfl ?_
  intro T252 h252 b252 g252 X252 e252 E252 A252 D252
  have F252_269 := D252 (Or.inr (wd269 hw)) (ty := (.object "java/lang/Object")) (by decide)
  have F252_272 := D252 (Or.inr (wd272 hw)) (ty := (.object "java/lang/Object")) (by decide)
  refine g_dup X252 hx (hb hby d_jdk_40m47_37) (q := 38) rfl rfl ?_
  refine aL X252 hx (hb hby d_jdk_40m47_38) (q := 39) rfl rfl rfl ?_
  refine cI X252 hx (hb hby d_jdk_40m47_39) (q := 40) rfl (z := (0 : Int32)) rfl ?_
  have f253 : Arv Z h252 ca kc (.object "java/lang/Object") (1 : Int32) [(.ref x0)] .null := P1.ext E252
  refine g_ldR X252 hx hZ0 f253 rfl (i := 0) (by decide) (by decide) (by decide) (v := (.ref x0)) rfl e252 (hb hby d_jdk_40m47_40) (q := 41) rfl ?_
  have gz256 : Z.heap.size ≤ b252 := Nat.le_trans O0.2.1 (Nat.le_of_eq g252.symm)
  have f257 : Old Z Z.heap.size h252 := O0.ext E252
  refine g_sp X252 hx hZ0 hown0 (wd246 hw) (wd247 hw) (wd249 hw) rfl (by decide) e252 (Con.back (W := 1) (rm_l12a l Z a0 hw zC SC PC aE SE aD SD aM SM mO MO b252 x0 h252 f257 A252 F252_269 F252_272 gz256) hZ0 (wd249 hw) (wd245 hw) (by decide) (by decide)) (by rw [hml]; rfl) (lenOf pd9 rfl) rfl (Nat.le_of_eq rfl) (hb hby d_jdk_40m47_41) (q := 44) rfl (by decide) (by decide) ?_
  intro v255 T255 L255 X255 Q255
  obtain ⟨rfl, Nq255, K255q, q255_0, q255_1, q255_2⟩ := Q255
  have N255 := Fr.app N0 Nq255
  show Go _ _ _ _ (T255.setTop (mkF m 44 #[.val (.ref ca), .unset] [(.ref b252)]))
  have K258 : Keep h0 h252 [] := (Keep.refl h0 []).ext E252
  have gh259 : h0.size ≤ b252 := Nat.le_trans (Nat.le_refl _) (Nat.le_of_eq g252.symm)
  have K260 : Keep h0 T255.heap [] := K258.trans K255q (allS (Or.inr gh259) all0)
  refine endP X255 hlk (fun h => by rw [hret] at h; cases h) (lastA X255 hx hret rfl rfl rfl (hb hby d_jdk_40m47_44)) ?_ (by decide) (by decide)
  exact ⟨b252, rfl, N255, K260, gh259, q255_0, q255_1, q255_2⟩
theorem d_jdk_56m3_0 : decode jdk_56_method_3_code 0 = .ok (.aload_n 0, 1) := by decide +kernel
theorem d_jdk_56m3_1 : decode jdk_56_method_3_code 1 = .ok (.instanceof 10, 3) := by decide +kernel
theorem wd83 {a0 : Array Value} {Z : State} (hw : HW a0 Z) : ((Jvm.Cond.classLink "java/util/ImmutableCollections" (10 : Nat) "java/util/ImmutableCollections$List12") : Jvm.Cond).before a0 Z = true := hw _ (List.mem_of_getElem? (i := 83) rfl)
theorem wd86 {a0 : Array Value} {Z : State} (hw : HW a0 Z) : ((Jvm.Cond.superclass "java/util/AbstractCollection" "java/lang/Object") : Jvm.Cond).before a0 Z = true := hw _ (List.mem_of_getElem? (i := 86) rfl)
theorem wd85 {a0 : Array Value} {Z : State} (hw : HW a0 Z) : ((Jvm.Cond.superclass "java/util/AbstractList" "java/util/AbstractCollection") : Jvm.Cond).before a0 Z = true := hw _ (List.mem_of_getElem? (i := 85) rfl)
theorem wd84 {a0 : Array Value} {Z : State} (hw : HW a0 Z) : ((Jvm.Cond.superclass "java/util/ArrayList" "java/util/AbstractList") : Jvm.Cond).before a0 Z = true := hw _ (List.mem_of_getElem? (i := 84) rfl)
theorem d_jdk_56m3_4 : decode jdk_56_method_3_code 4 = .ok (.ifCond .ne 22, 3) := by decide +kernel
theorem d_jdk_56m3_7 : decode jdk_56_method_3_code 7 = .ok (.aload_n 0, 1) := by decide +kernel
theorem d_jdk_56m3_8 : decode jdk_56_method_3_code 8 = .ok (.instanceof 12, 3) := by decide +kernel
theorem wd88 {a0 : Array Value} {Z : State} (hw : HW a0 Z) : ((Jvm.Cond.classLink "java/util/ImmutableCollections" (12 : Nat) "java/util/ImmutableCollections$ListN") : Jvm.Cond).before a0 Z = true := hw _ (List.mem_of_getElem? (i := 88) rfl)
theorem wd119 {a0 : Array Value} {Z : State} (hw : HW a0 Z) : ((Jvm.Cond.superclass "java/util/ImmutableCollections$ListN" "java/util/ImmutableCollections$AbstractImmutableList") : Jvm.Cond).before a0 Z = true := hw _ (List.mem_of_getElem? (i := 119) rfl)
theorem d_jdk_56m3_11 : decode jdk_56_method_3_code 11 = .ok (.ifCond .eq 20, 3) := by decide +kernel
theorem d_jdk_56m3_31 : decode jdk_56_method_3_code 31 = .ok (.aload_n 0, 1) := by decide +kernel
theorem d_jdk_56m3_32 : decode jdk_56_method_3_code 32 = .ok (.invokeinterface 20 1, 5) := by decide +kernel
theorem wd97 {a0 : Array Value} {Z : State} (hw : HW a0 Z) : ((Jvm.Cond.code ({ cls := "java/util/ArrayList", name := "isEmpty", desc := "()Z" } : Jvm.MethodName) jdk_38_method_9_code (1 : Nat) (Option.some Jvm.ClassFile.FieldType.boolean)) : Jvm.Cond).before a0 Z = true := hw _ (List.mem_of_getElem? (i := 97) rfl)
theorem pd10 : parseMethodDescriptor "()Z" = some ⟨[], some .boolean⟩ := by decide +kernel
theorem wd89 {a0 : Array Value} {Z : State} (hw : HW a0 Z) : ((Jvm.Cond.methodLink "java/util/ImmutableCollections" (20 : Nat) ({ cls := "java/util/Collection", name := "isEmpty", desc := "()Z" } : Jvm.MethodName)) : Jvm.Cond).before a0 Z = true := hw _ (List.mem_of_getElem? (i := 89) rfl)
theorem wd90 {a0 : Array Value} {Z : State} (hw : HW a0 Z) : ((Jvm.Cond.declares ({ cls := "java/util/Collection", name := "isEmpty", desc := "()Z" } : Jvm.MethodName)) : Jvm.Cond).before a0 Z = true := hw _ (List.mem_of_getElem? (i := 90) rfl)
theorem wd91 {a0 : Array Value} {Z : State} (hw : HW a0 Z) : ((Jvm.Cond.interfaceMethod "java/util/Collection" "java/util/Collection" "isEmpty" "()Z") : Jvm.Cond).before a0 Z = true := hw _ (List.mem_of_getElem? (i := 91) rfl)
theorem wd92 {a0 : Array Value} {Z : State} (hw : HW a0 Z) : ((Jvm.Cond.selects "java/util/ArrayList" ({ cls := "java/util/Collection", name := "isEmpty", desc := "()Z" } : Jvm.MethodName) ({ cls := "java/util/ArrayList", name := "isEmpty", desc := "()Z" } : Jvm.MethodName)) : Jvm.Cond).before a0 Z = true := hw _ (List.mem_of_getElem? (i := 92) rfl)
theorem wd93 {a0 : Array Value} {Z : State} (hw : HW a0 Z) : ((Jvm.Cond.instanceMethod ({ cls := "java/util/ArrayList", name := "isEmpty", desc := "()Z" } : Jvm.MethodName)) : Jvm.Cond).before a0 Z = true := hw _ (List.mem_of_getElem? (i := 93) rfl)
theorem wd94 {a0 : Array Value} {Z : State} (hw : HW a0 Z) : ((Jvm.Cond.publicMethod ({ cls := "java/util/ArrayList", name := "isEmpty", desc := "()Z" } : Jvm.MethodName)) : Jvm.Cond).before a0 Z = true := hw _ (List.mem_of_getElem? (i := 94) rfl)
theorem wd95 {a0 : Array Value} {Z : State} (hw : HW a0 Z) : ((Jvm.Cond.unhidden "java/util/ArrayList" "isEmpty" "()Z") : Jvm.Cond).before a0 Z = true := hw _ (List.mem_of_getElem? (i := 95) rfl)
theorem wd96 {a0 : Array Value} {Z : State} (hw : HW a0 Z) : ((Jvm.Cond.castable "java/util/ArrayList" "java/util/Collection") : Jvm.Cond).before a0 Z = true := hw _ (List.mem_of_getElem? (i := 96) rfl)
theorem d_jdk_56m3_37 : decode jdk_56_method_3_code 37 = .ok (.ifCond .eq 7, 3) := by decide +kernel
theorem d_jdk_56m3_44 : decode jdk_56_method_3_code 44 = .ok (.aload_n 0, 1) := by decide +kernel
theorem d_jdk_56m3_45 : decode jdk_56_method_3_code 45 = .ok (.invokeinterface 30 1, 5) := by decide +kernel
theorem wd217 {a0 : Array Value} {Z : State} (hw : HW a0 Z) : ((Jvm.Cond.code ({ cls := "java/util/ArrayList", name := "toArray", desc := "()[Ljava/lang/Object;" } : Jvm.MethodName) jdk_38_method_16_code (1 : Nat) (Option.some (Jvm.ClassFile.FieldType.array (Jvm.ClassFile.FieldType.object "java/lang/Object")))) : Jvm.Cond).before a0 Z = true := hw _ (List.mem_of_getElem? (i := 217) rfl)
theorem wd210 {a0 : Array Value} {Z : State} (hw : HW a0 Z) : ((Jvm.Cond.methodLink "java/util/ImmutableCollections" (30 : Nat) ({ cls := "java/util/Collection", name := "toArray", desc := "()[Ljava/lang/Object;" } : Jvm.MethodName)) : Jvm.Cond).before a0 Z = true := hw _ (List.mem_of_getElem? (i := 210) rfl)
theorem wd211 {a0 : Array Value} {Z : State} (hw : HW a0 Z) : ((Jvm.Cond.declares ({ cls := "java/util/Collection", name := "toArray", desc := "()[Ljava/lang/Object;" } : Jvm.MethodName)) : Jvm.Cond).before a0 Z = true := hw _ (List.mem_of_getElem? (i := 211) rfl)
theorem wd212 {a0 : Array Value} {Z : State} (hw : HW a0 Z) : ((Jvm.Cond.interfaceMethod "java/util/Collection" "java/util/Collection" "toArray" "()[Ljava/lang/Object;") : Jvm.Cond).before a0 Z = true := hw _ (List.mem_of_getElem? (i := 212) rfl)
theorem wd213 {a0 : Array Value} {Z : State} (hw : HW a0 Z) : ((Jvm.Cond.selects "java/util/ArrayList" ({ cls := "java/util/Collection", name := "toArray", desc := "()[Ljava/lang/Object;" } : Jvm.MethodName) ({ cls := "java/util/ArrayList", name := "toArray", desc := "()[Ljava/lang/Object;" } : Jvm.MethodName)) : Jvm.Cond).before a0 Z = true := hw _ (List.mem_of_getElem? (i := 213) rfl)
theorem wd214 {a0 : Array Value} {Z : State} (hw : HW a0 Z) : ((Jvm.Cond.instanceMethod ({ cls := "java/util/ArrayList", name := "toArray", desc := "()[Ljava/lang/Object;" } : Jvm.MethodName)) : Jvm.Cond).before a0 Z = true := hw _ (List.mem_of_getElem? (i := 214) rfl)
theorem wd215 {a0 : Array Value} {Z : State} (hw : HW a0 Z) : ((Jvm.Cond.publicMethod ({ cls := "java/util/ArrayList", name := "toArray", desc := "()[Ljava/lang/Object;" } : Jvm.MethodName)) : Jvm.Cond).before a0 Z = true := hw _ (List.mem_of_getElem? (i := 215) rfl)
theorem wd216 {a0 : Array Value} {Z : State} (hw : HW a0 Z) : ((Jvm.Cond.unhidden "java/util/ArrayList" "toArray" "()[Ljava/lang/Object;") : Jvm.Cond).before a0 Z = true := hw _ (List.mem_of_getElem? (i := 216) rfl)
theorem d_jdk_56m3_50 : decode jdk_56_method_3_code 50 = .ok (.invokestatic 34, 3) := by decide +kernel
theorem wd242 {a0 : Array Value} {Z : State} (hw : HW a0 Z) : ((Jvm.Cond.code ({ cls := "java/util/List", name := "of", desc := "([Ljava/lang/Object;)Ljava/util/List;" } : Jvm.MethodName) jdk_40_method_47_code (2 : Nat) (Option.some (Jvm.ClassFile.FieldType.object "java/util/List"))) : Jvm.Cond).before a0 Z = true := hw _ (List.mem_of_getElem? (i := 242) rfl)
theorem wd77 {a0 : Array Value} {Z : State} (hw : HW a0 Z) : ((Jvm.Cond.initialized "java/util/List") : Jvm.Cond).before a0 Z = true := hw _ (List.mem_of_getElem? (i := 77) rfl)
theorem pd11 : parseMethodDescriptor "([Ljava/lang/Object;)Ljava/util/List;" = some ⟨[(.array (.object "java/lang/Object"))], some (.object "java/util/List")⟩ := by decide +kernel
theorem wd240 {a0 : Array Value} {Z : State} (hw : HW a0 Z) : ((Jvm.Cond.methodLink "java/util/ImmutableCollections" (34 : Nat) ({ cls := "java/util/List", name := "of", desc := "([Ljava/lang/Object;)Ljava/util/List;" } : Jvm.MethodName)) : Jvm.Cond).before a0 Z = true := hw _ (List.mem_of_getElem? (i := 240) rfl)
theorem wd241 {a0 : Array Value} {Z : State} (hw : HW a0 Z) : ((Jvm.Cond.static ({ cls := "java/util/List", name := "of", desc := "([Ljava/lang/Object;)Ljava/util/List;" } : Jvm.MethodName)) : Jvm.Cond).before a0 Z = true := hw _ (List.mem_of_getElem? (i := 241) rfl)
theorem d_jdk_56m3_53 : decode jdk_56_method_3_code 53 = .ok (.areturn, 1) := by decide +kernel
def Q_lc1 (Z : State) (zC : Int32) (aE : Addr) (aD : Addr) (aM : Addr) (mO : Addr) (a1 : Addr) (r : Addr) (kr : ClassId) (x0 : Addr) (h0 : Heap) (v : Option Value) (h : Heap) (L : List Loc) : Prop := ∃ (q : Addr), v = some (.ref q) ∧ Fr Z.heap.size L ∧ Keep h0 h [] ∧ h0.size ≤ q ∧ Exa Z h q "java/util/ImmutableCollections$List12" ∧ Fld Z h q "java/util/ImmutableCollections$List12" "e0" "Ljava/lang/Object;" (.ref x0) ∧ Fld Z h q "java/util/ImmutableCollections$List12" "e1" "Ljava/lang/Object;" (.ref aM)
theorem pn15 : plainName "java/util/ImmutableCollections" = true := by first | (simp [plainName, overriddenIn]; done) | decide +kernel
theorem rm_lc1 (l : Launch) (Z : State) (a0 : Array Value) (hw : HW a0 Z) (zC : Int32) (SC : tSC Z zC) (PC : ¬ zC = (0 : Int32)) (aE : Addr) (SE : tSE Z aE) (aD : Addr) (SD : tSD Z aD) (aM : Addr) (SM : tSM Z aM) (mO : Addr) (MO : tMO Z mO) (a1 : Addr) (r : Addr) (kr : ClassId) (x0 : Addr) (h0 : Heap) (O0 : Old Z Z.heap.size h0) (P3 : Exa Z h0 a1 "java/util/ArrayList") (P4 : Fld Z h0 a1 "java/util/ArrayList" "size" "I" (.int (1 : Int32))) (P5 : Fld Z h0 a1 "java/util/ArrayList" "elementData" "[Ljava/lang/Object;" (.ref r)) (P1 : Arv Z h0 r kr (.object "java/lang/Object") (10 : Int32) [(.ref x0), .null, .null, .null, .null, .null, .null, .null, .null, .null] .null) (P2 : Exa Z h0 r "[Ljava/lang/Object;") (PX0 : Exa Z h0 x0 "com/example/quaymark/quaymark/Review$LeftOut") :
    Con l Z (⟨"java/util/ImmutableCollections", "listCopy", "(Ljava/util/Collection;)Ljava/util/List;"⟩ : MethodName) jdk_56_method_3_code 2 (some (.object "java/util/List")) ({ frames := 6, cells := 2, slots := 3, locals := 75 } : Room) #[(.ref a1)] h0 (Q_lc1 Z zC aE aD aM mO a1 r kr x0 h0) := by
  refine Con.intro (plainFor_of_name pn15) ?_
  intro p e s m below meth c T0 X0 hx hby hml hown0 hnm hret hlk hZ0 e0
  have N0 := Fr.nil Z.heap.size
  refine castGo (g' := mkF m 0 #[.val (.ref a1), .unset] []) (by first | rfl | (simp [entryFrame, mkF, argsToLocals, Value.category]; done)) ?_
  show Go _ _ _ _ (T0.setTop (mkF m 0 #[.val (.ref a1), .unset] []))
  refine aL X0 hx (hb hby d_jdk_56m3_0) (q := 1) rfl rfl rfl ?_
  refine g_insN X0 hx hZ0 hown0 (wd83 hw) P3 (nsi_no (wd84 hw) (wd244 hw) (NS.step (wd84 hw) (NS.step (wd85 hw) (NS.step (wd86 hw) (nsi_root (wd87 hw) (wd244 hw) (by decide)) (by decide)) (by decide)) (by decide)) (by decide)) e0 (hb hby d_jdk_56m3_1) (q := 4) rfl ?_
  intro T261 X261 e261
  refine ifN X261 hx (hb hby d_jdk_56m3_4) (q := 7) rfl (by decide) ?_
  refine aL X261 hx (hb hby d_jdk_56m3_7) (q := 8) rfl rfl rfl ?_
  refine g_insN X261 hx hZ0 hown0 (wd88 hw) P3 (NS.no (wd84 hw) (wd119 hw) (NS.step (wd84 hw) (NS.step (wd85 hw) (NS.step (wd86 hw) (NS.root (wd87 hw) (wd119 hw) (by decide)) (by decide)) (by decide)) (by decide)) (by decide)) e261 (hb hby d_jdk_56m3_8) (q := 11) rfl ?_
  intro T262 X262 e262
  refine ifY X262 hx (hb hby d_jdk_56m3_11) (q := 31) (by decide) (by decide) (by decide) ?_
  refine aL X262 hx (hb hby d_jdk_56m3_31) (q := 32) rfl rfl rfl ?_
  refine g_if X262 hx hZ0 hown0 (wd89 hw) (wd90 hw) (wd91 hw) rfl (wd92 hw) (wd93 hw) (wd94 hw) (wd95 hw) (wd96 hw) (by decide) P3 e262 (Con.back (W := 0) (rm_isempty1 l Z a0 hw zC SC PC aE SE aD SD aM SM mO MO a1 h0 O0 P4) hZ0 (wd97 hw) (wd46 hw) (by decide) (by decide)) (by rw [hml]; rfl) (lenOf pd10 rfl) rfl (Nat.le_of_eq rfl) (hb hby d_jdk_56m3_32) (q := 37) rfl (by decide) (by decide) ?_
  intro v263 T263 L263 X263 Q263
  obtain ⟨rfl, Nq263, e263⟩ := Q263
  have N263 := Fr.app N0 Nq263
  show Go _ _ _ _ (T263.setTop (mkF m 37 #[.val (.ref a1), .unset] [(.int (0 : Int32))]))
  refine ifY X263 hx (hb hby d_jdk_56m3_37) (q := 44) (by decide) (by decide) (by decide) ?_
  refine aL X263 hx (hb hby d_jdk_56m3_44) (q := 45) rfl rfl rfl ?_
  refine g_if X263 hx hZ0 hown0 (wd210 hw) (wd211 hw) (wd212 hw) rfl (wd213 hw) (wd214 hw) (wd215 hw) (wd216 hw) (wd96 hw) (by decide) P3 e263 (Con.back (W := 0) (rm_toarr1 l Z a0 hw zC SC PC aE SE aD SD aM SM mO MO a1 r kr x0 h0 O0 P3 P4 P5 P1 P2 PX0) hZ0 (wd217 hw) (wd46 hw) (by decide) (by decide)) (by rw [hml]; rfl) (lenOf pd4 rfl) rfl (Nat.le_of_eq rfl) (hb hby d_jdk_56m3_45) (q := 50) rfl (by decide) (by decide) ?_
  intro v264 T264 L264 X264 Q264
  obtain ⟨c_264, kc_264, rfl, Nq264, K264q, q264_0, q264_1⟩ := Q264
  have N264 := Fr.app N263 Nq264
  show Go _ _ _ _ (T264.setTop (mkF m 50 #[.val (.ref a1), .unset] [(.ref c_264)]))
  have f266 : Old Z Z.heap.size T264.heap := O0.keep K264q all0
  refine g_st X264 hx hZ0 hown0 (wd240 hw) (wd241 hw) (wd77 hw) (wd242 hw) (by decide) rfl (Con.back (W := 0) (rm_ofa1 l Z a0 hw zC SC PC aE SE aD SD aM SM mO MO c_264 kc_264 x0 T264.heap f266 q264_1) hZ0 (wd242 hw) (wd77 hw) (by decide) (by decide)) (by rw [hml]; rfl) (lenOf pd11 rfl) rfl (Nat.le_of_eq rfl) (hb hby d_jdk_56m3_50) (q := 53) rfl (by decide) (by decide) ?_
  intro v265 T265 L265 X265 Q265
  obtain ⟨q_265, rfl, Nq265, K265q, q265_0, q265_1, q265_2, q265_3⟩ := Q265
  have N265 := Fr.app N264 Nq265
  show Go _ _ _ _ (T265.setTop (mkF m 53 #[.val (.ref a1), .unset] [(.ref q_265)]))
  have K267 : Keep h0 T264.heap [] := (Keep.refl h0 []).trans K264q all0
  have K268 : Keep h0 T265.heap [] := K267.trans K265q all0
  have le270 : (h0).size ≤ (T264.heap).size := K264q.1
  have gh269 : h0.size ≤ q_265 := Nat.le_trans le270 q265_0
  refine endP X265 hlk (fun h => by rw [hret] at h; cases h) (lastA X265 hx hret rfl rfl rfl (hb hby d_jdk_56m3_53)) ?_ (by decide) (by decide)
  exact ⟨q_265, rfl, N265, K268, gh269, q265_1, q265_2, q265_3⟩
theorem d_jdk_40m48_0 : decode jdk_40_method_48_code 0 = .ok (.aload_n 0, 1) := by decide +kernel
theorem d_jdk_40m48_1 : decode jdk_40_method_48_code 1 = .ok (.invokestatic 112, 3) := by decide +kernel
theorem wd82 {a0 : Array Value} {Z : State} (hw : HW a0 Z) : ((Jvm.Cond.code ({ cls := "java/util/ImmutableCollections", name := "listCopy", desc := "(Ljava/util/Collection;)Ljava/util/List;" } : Jvm.MethodName) jdk_56_method_3_code (2 : Nat) (Option.some (Jvm.ClassFile.FieldType.object "java/util/List"))) : Jvm.Cond).before a0 Z = true := hw _ (List.mem_of_getElem? (i := 82) rfl)
theorem wd81 {a0 : Array Value} {Z : State} (hw : HW a0 Z) : ((Jvm.Cond.initialized "java/util/ImmutableCollections") : Jvm.Cond).before a0 Z = true := hw _ (List.mem_of_getElem? (i := 81) rfl)
theorem pd12 : parseMethodDescriptor "(Ljava/util/Collection;)Ljava/util/List;" = some ⟨[(.object "java/util/Collection")], some (.object "java/util/List")⟩ := by decide +kernel
theorem wd79 {a0 : Array Value} {Z : State} (hw : HW a0 Z) : ((Jvm.Cond.methodLink "java/util/List" (112 : Nat) ({ cls := "java/util/ImmutableCollections", name := "listCopy", desc := "(Ljava/util/Collection;)Ljava/util/List;" } : Jvm.MethodName)) : Jvm.Cond).before a0 Z = true := hw _ (List.mem_of_getElem? (i := 79) rfl)
theorem wd80 {a0 : Array Value} {Z : State} (hw : HW a0 Z) : ((Jvm.Cond.static ({ cls := "java/util/ImmutableCollections", name := "listCopy", desc := "(Ljava/util/Collection;)Ljava/util/List;" } : Jvm.MethodName)) : Jvm.Cond).before a0 Z = true := hw _ (List.mem_of_getElem? (i := 80) rfl)
theorem d_jdk_40m48_4 : decode jdk_40_method_48_code 4 = .ok (.areturn, 1) := by decide +kernel
def Q_co1 (Z : State) (zC : Int32) (aE : Addr) (aD : Addr) (aM : Addr) (mO : Addr) (a1 : Addr) (r : Addr) (kr : ClassId) (x0 : Addr) (h0 : Heap) (v : Option Value) (h : Heap) (L : List Loc) : Prop := ∃ (q : Addr), v = some (.ref q) ∧ Fr Z.heap.size L ∧ Keep h0 h [] ∧ h0.size ≤ q ∧ Exa Z h q "java/util/ImmutableCollections$List12" ∧ Fld Z h q "java/util/ImmutableCollections$List12" "e0" "Ljava/lang/Object;" (.ref x0) ∧ Fld Z h q "java/util/ImmutableCollections$List12" "e1" "Ljava/lang/Object;" (.ref aM)
theorem rm_co1 (l : Launch) (Z : State) (a0 : Array Value) (hw : HW a0 Z) (zC : Int32) (SC : tSC Z zC) (PC : ¬ zC = (0 : Int32)) (aE : Addr) (SE : tSE Z aE) (aD : Addr) (SD : tSD Z aD) (aM : Addr) (SM : tSM Z aM) (mO : Addr) (MO : tMO Z mO) (a1 : Addr) (r : Addr) (kr : ClassId) (x0 : Addr) (h0 : Heap) (O0 : Old Z Z.heap.size h0) (P3 : Exa Z h0 a1 "java/util/ArrayList") (P4 : Fld Z h0 a1 "java/util/ArrayList" "size" "I" (.int (1 : Int32))) (P5 : Fld Z h0 a1 "java/util/ArrayList" "elementData" "[Ljava/lang/Object;" (.ref r)) (P1 : Arv Z h0 r kr (.object "java/lang/Object") (10 : Int32) [(.ref x0), .null, .null, .null, .null, .null, .null, .null, .null, .null] .null) (P2 : Exa Z h0 r "[Ljava/lang/Object;") (PX0 : Exa Z h0 x0 "com/example/quaymark/quaymark/Review$LeftOut") :
    Con l Z (⟨"java/util/List", "copyOf", "(Ljava/util/Collection;)Ljava/util/List;"⟩ : MethodName) jdk_40_method_48_code 1 (some (.object "java/util/List")) ({ frames := 7, cells := 2, slots := 3, locals := 88 } : Room) #[(.ref a1)] h0 (Q_co1 Z zC aE aD aM mO a1 r kr x0 h0) := by
  refine Con.intro (plainFor_of_name pn14) ?_
  intro p e s m below meth c T0 X0 hx hby hml hown0 hnm hret hlk hZ0 e0
  have N0 := Fr.nil Z.heap.size
  refine castGo (g' := mkF m 0 #[.val (.ref a1)] []) (by first | rfl | (simp [entryFrame, mkF, argsToLocals, Value.category]; done)) ?_
  show Go _ _ _ _ (T0.setTop (mkF m 0 #[.val (.ref a1)] []))
  refine aL X0 hx (hb hby d_jdk_40m48_0) (q := 1) rfl rfl rfl ?_
  refine g_st X0 hx hZ0 hown0 (wd79 hw) (wd80 hw) (wd81 hw) (wd82 hw) (by decide) e0 (Con.back (W := 0) (rm_lc1 l Z a0 hw zC SC PC aE SE aD SD aM SM mO MO a1 r kr x0 h0 O0 P3 P4 P5 P1 P2 PX0) hZ0 (wd82 hw) (wd81 hw) (by decide) (by decide)) (by rw [hml]; rfl) (lenOf pd12 rfl) rfl (Nat.le_of_eq rfl) (hb hby d_jdk_40m48_1) (q := 4) rfl (by decide) (by decide) ?_
  intro v271 T271 L271 X271 Q271
  obtain ⟨q_271, rfl, Nq271, K271q, q271_0, q271_1, q271_2, q271_3⟩ := Q271
  have N271 := Fr.app N0 Nq271
  show Go _ _ _ _ (T271.setTop (mkF m 4 #[.val (.ref a1)] [(.ref q_271)]))
  have K272 : Keep h0 T271.heap [] := (Keep.refl h0 []).trans K271q all0
  have gh273 : h0.size ≤ q_271 := Nat.le_trans (Nat.le_refl _) q271_0
  refine endP X271 hlk (fun h => by rw [hret] at h; cases h) (lastA X271 hx hret rfl rfl rfl (hb hby d_jdk_40m48_4)) ?_ (by decide) (by decide)
  exact ⟨q_271, rfl, N271, K272, gh273, q271_1, q271_2, q271_3⟩
theorem d_jdk_40m47_45 : decode jdk_40_method_47_code 45 = .ok (.new 96, 3) := by decide +kernel
theorem d_jdk_40m47_48 : decode jdk_40_method_47_code 48 = .ok (.dup, 1) := by decide +kernel
theorem d_jdk_40m47_49 : decode jdk_40_method_47_code 49 = .ok (.aload_n 0, 1) := by decide +kernel
theorem d_jdk_40m47_50 : decode jdk_40_method_47_code 50 = .ok (.iconst 0, 1) := by decide +kernel
theorem d_jdk_40m47_51 : decode jdk_40_method_47_code 51 = .ok (.aaload, 1) := by decide +kernel
theorem d_jdk_40m47_52 : decode jdk_40_method_47_code 52 = .ok (.aload_n 0, 1) := by decide +kernel
theorem d_jdk_40m47_53 : decode jdk_40_method_47_code 53 = .ok (.iconst 1, 1) := by decide +kernel
theorem d_jdk_40m47_54 : decode jdk_40_method_47_code 54 = .ok (.aaload, 1) := by decide +kernel
theorem d_jdk_40m47_55 : decode jdk_40_method_47_code 55 = .ok (.invokespecial 100, 3) := by decide +kernel
theorem wd314 {a0 : Array Value} {Z : State} (hw : HW a0 Z) : ((Jvm.Cond.code ({ cls := "java/util/ImmutableCollections$List12", name := "<init>", desc := "(Ljava/lang/Object;Ljava/lang/Object;)V" } : Jvm.MethodName) jdk_44_method_2_code (3 : Nat) (Option.none : Option Jvm.ClassFile.FieldType)) : Jvm.Cond).before a0 Z = true := hw _ (List.mem_of_getElem? (i := 314) rfl)
theorem pd13 : parseMethodDescriptor "(Ljava/lang/Object;Ljava/lang/Object;)V" = some ⟨[(.object "java/lang/Object"), (.object "java/lang/Object")], none⟩ := by decide +kernel
theorem wd312 {a0 : Array Value} {Z : State} (hw : HW a0 Z) : ((Jvm.Cond.methodLink "java/util/List" (100 : Nat) ({ cls := "java/util/ImmutableCollections$List12", name := "<init>", desc := "(Ljava/lang/Object;Ljava/lang/Object;)V" } : Jvm.MethodName)) : Jvm.Cond).before a0 Z = true := hw _ (List.mem_of_getElem? (i := 312) rfl)
theorem wd313 {a0 : Array Value} {Z : State} (hw : HW a0 Z) : ((Jvm.Cond.instanceMethod ({ cls := "java/util/ImmutableCollections$List12", name := "<init>", desc := "(Ljava/lang/Object;Ljava/lang/Object;)V" } : Jvm.MethodName)) : Jvm.Cond).before a0 Z = true := hw _ (List.mem_of_getElem? (i := 313) rfl)
theorem d_jdk_40m47_58 : decode jdk_40_method_47_code 58 = .ok (.areturn, 1) := by decide +kernel
def Q_ofa2 (Z : State) (zC : Int32) (aE : Addr) (aD : Addr) (aM : Addr) (mO : Addr) (ca : Addr) (kc : ClassId) (x0 : Addr) (x1 : Addr) (h0 : Heap) (v : Option Value) (h : Heap) (L : List Loc) : Prop := ∃ (q : Addr), v = some (.ref q) ∧ Fr Z.heap.size L ∧ Keep h0 h [] ∧ h0.size ≤ q ∧ Exa Z h q "java/util/ImmutableCollections$List12" ∧ Fld Z h q "java/util/ImmutableCollections$List12" "e0" "Ljava/lang/Object;" (.ref x0) ∧ Fld Z h q "java/util/ImmutableCollections$List12" "e1" "Ljava/lang/Object;" (.ref x1)
theorem rm_ofa2 (l : Launch) (Z : State) (a0 : Array Value) (hw : HW a0 Z) (zC : Int32) (SC : tSC Z zC) (PC : ¬ zC = (0 : Int32)) (aE : Addr) (SE : tSE Z aE) (aD : Addr) (SD : tSD Z aD) (aM : Addr) (SM : tSM Z aM) (mO : Addr) (MO : tMO Z mO) (ca : Addr) (kc : ClassId) (x0 : Addr) (x1 : Addr) (h0 : Heap) (O0 : Old Z Z.heap.size h0) (P1 : Arv Z h0 ca kc (.object "java/lang/Object") (2 : Int32) [(.ref x0), (.ref x1)] .null) :
    Con l Z (⟨"java/util/List", "of", "([Ljava/lang/Object;)Ljava/util/List;"⟩ : MethodName) jdk_40_method_47_code 2 (some (.object "java/util/List")) ({ frames := 5, cells := 1, slots := 2, locals := 63 } : Room) #[(.ref ca)] h0 (Q_ofa2 Z zC aE aD aM mO ca kc x0 x1 h0) := by
  refine Con.intro (plainFor_of_name pn14) ?_
  intro p e s m below meth c T0 X0 hx hby hml hown0 hnm hret hlk hZ0 e0
  have N0 := Fr.nil Z.heap.size
  refine castGo (g' := mkF m 0 #[.val (.ref ca), .unset] []) (by first | rfl | (simp [entryFrame, mkF, argsToLocals, Value.category]; done)) ?_
  show Go _ _ _ _ (T0.setTop (mkF m 0 #[.val (.ref ca), .unset] []))
  refine aL X0 hx (hb hby d_jdk_40m47_0) (q := 1) rfl rfl rfl ?_
  refine g_len X0 hx hZ0 P1 e0 (hb hby d_jdk_40m47_1) (q := 2) rfl ?_
  refine g_tsw X0 hx (j := (43 : Int)) (hb hby d_jdk_40m47_2) (q := 45) (by decide) (by decide) (by decide) (by decide) ?_
  refine g_new X0 hx hZ0 hown0 (wd243 hw) (wd244 hw) (wd245 hw) (by decide) (by decide) e0 (hb hby d_jdk_40m47_45) (q := 48) rfl ?_
  intro T274 h274 b274 g274 X274 e274 E274 A274 D274
  have F274_269 := D274 (Or.inr (wd269 hw)) (ty := (.object "java/lang/Object")) (by decide)
  have F274_272 := D274 (Or.inr (wd272 hw)) (ty := (.object "java/lang/Object")) (by decide)
  refine g_dup X274 hx (hb hby d_jdk_40m47_48) (q := 49) rfl rfl ?_
  refine aL X274 hx (hb hby d_jdk_40m47_49) (q := 50) rfl rfl rfl ?_
  refine cI X274 hx (hb hby d_jdk_40m47_50) (q := 51) rfl (z := (0 : Int32)) rfl ?_
  have f275 : Arv Z h274 ca kc (.object "java/lang/Object") (2 : Int32) [(.ref x0), (.ref x1)] .null := P1.ext E274
  refine g_ldR X274 hx hZ0 f275 rfl (i := 0) (by decide) (by decide) (by decide) (v := (.ref x0)) rfl e274 (hb hby d_jdk_40m47_51) (q := 52) rfl ?_
  refine aL X274 hx (hb hby d_jdk_40m47_52) (q := 53) rfl rfl rfl ?_
  refine cI X274 hx (hb hby d_jdk_40m47_53) (q := 54) rfl (z := (1 : Int32)) rfl ?_
  refine g_ldR X274 hx hZ0 f275 rfl (i := 1) (by decide) (by decide) (by decide) (v := (.ref x1)) rfl e274 (hb hby d_jdk_40m47_54) (q := 55) rfl ?_
  have gz278 : Z.heap.size ≤ b274 := Nat.le_trans O0.2.1 (Nat.le_of_eq g274.symm)
  have f279 : Old Z Z.heap.size h274 := O0.ext E274
  refine g_sp X274 hx hZ0 hown0 (wd312 hw) (wd313 hw) (wd314 hw) rfl (by decide) e274 (Con.back (W := 1) (rm_l12b l Z a0 hw zC SC PC aE SE aD SD aM SM mO MO b274 x0 x1 h274 f279 A274 F274_269 F274_272 gz278) hZ0 (wd314 hw) (wd245 hw) (by decide) (by decide)) (by rw [hml]; rfl) (lenOf pd13 rfl) rfl (Nat.le_of_eq rfl) (hb hby d_jdk_40m47_55) (q := 58) rfl (by decide) (by decide) ?_
  intro v277 T277 L277 X277 Q277
  obtain ⟨rfl, Nq277, K277q, q277_0, q277_1, q277_2⟩ := Q277
  have N277 := Fr.app N0 Nq277
  show Go _ _ _ _ (T277.setTop (mkF m 58 #[.val (.ref ca), .unset] [(.ref b274)]))
  have K280 : Keep h0 h274 [] := (Keep.refl h0 []).ext E274
  have gh281 : h0.size ≤ b274 := Nat.le_trans (Nat.le_refl _) (Nat.le_of_eq g274.symm)
  have K282 : Keep h0 T277.heap [] := K280.trans K277q (allS (Or.inr gh281) all0)
  refine endP X277 hlk (fun h => by rw [hret] at h; cases h) (lastA X277 hx hret rfl rfl rfl (hb hby d_jdk_40m47_58)) ?_ (by decide) (by decide)
  exact ⟨b274, rfl, N277, K282, gh281, q277_0, q277_1, q277_2⟩
def Q_lc2 (Z : State) (zC : Int32) (aE : Addr) (aD : Addr) (aM : Addr) (mO : Addr) (a1 : Addr) (r : Addr) (kr : ClassId) (x0 : Addr) (x1 : Addr) (h0 : Heap) (v : Option Value) (h : Heap) (L : List Loc) : Prop := ∃ (q : Addr), v = some (.ref q) ∧ Fr Z.heap.size L ∧ Keep h0 h [] ∧ h0.size ≤ q ∧ Exa Z h q "java/util/ImmutableCollections$List12" ∧ Fld Z h q "java/util/ImmutableCollections$List12" "e0" "Ljava/lang/Object;" (.ref x0) ∧ Fld Z h q "java/util/ImmutableCollections$List12" "e1" "Ljava/lang/Object;" (.ref x1)
theorem rm_lc2 (l : Launch) (Z : State) (a0 : Array Value) (hw : HW a0 Z) (zC : Int32) (SC : tSC Z zC) (PC : ¬ zC = (0 : Int32)) (aE : Addr) (SE : tSE Z aE) (aD : Addr) (SD : tSD Z aD) (aM : Addr) (SM : tSM Z aM) (mO : Addr) (MO : tMO Z mO) (a1 : Addr) (r : Addr) (kr : ClassId) (x0 : Addr) (x1 : Addr) (h0 : Heap) (O0 : Old Z Z.heap.size h0) (P3 : Exa Z h0 a1 "java/util/ArrayList") (P4 : Fld Z h0 a1 "java/util/ArrayList" "size" "I" (.int (2 : Int32))) (P5 : Fld Z h0 a1 "java/util/ArrayList" "elementData" "[Ljava/lang/Object;" (.ref r)) (P1 : Arv Z h0 r kr (.object "java/lang/Object") (10 : Int32) [(.ref x0), (.ref x1), .null, .null, .null, .null, .null, .null, .null, .null] .null) (P2 : Exa Z h0 r "[Ljava/lang/Object;") (PX0 : Exa Z h0 x0 "com/example/quaymark/quaymark/Review$LeftOut") (PX1 : Exa Z h0 x1 "com/example/quaymark/quaymark/Review$LeftOut") :
    Con l Z (⟨"java/util/ImmutableCollections", "listCopy", "(Ljava/util/Collection;)Ljava/util/List;"⟩ : MethodName) jdk_56_method_3_code 2 (some (.object "java/util/List")) ({ frames := 6, cells := 2, slots := 4, locals := 76 } : Room) #[(.ref a1)] h0 (Q_lc2 Z zC aE aD aM mO a1 r kr x0 x1 h0) := by
  refine Con.intro (plainFor_of_name pn15) ?_
  intro p e s m below meth c T0 X0 hx hby hml hown0 hnm hret hlk hZ0 e0
  have N0 := Fr.nil Z.heap.size
  refine castGo (g' := mkF m 0 #[.val (.ref a1), .unset] []) (by first | rfl | (simp [entryFrame, mkF, argsToLocals, Value.category]; done)) ?_
  show Go _ _ _ _ (T0.setTop (mkF m 0 #[.val (.ref a1), .unset] []))
  refine aL X0 hx (hb hby d_jdk_56m3_0) (q := 1) rfl rfl rfl ?_
  refine g_insN X0 hx hZ0 hown0 (wd83 hw) P3 (nsi_no (wd84 hw) (wd244 hw) (NS.step (wd84 hw) (NS.step (wd85 hw) (NS.step (wd86 hw) (nsi_root (wd87 hw) (wd244 hw) (by decide)) (by decide)) (by decide)) (by decide)) (by decide)) e0 (hb hby d_jdk_56m3_1) (q := 4) rfl ?_
  intro T283 X283 e283
  refine ifN X283 hx (hb hby d_jdk_56m3_4) (q := 7) rfl (by decide) ?_
  refine aL X283 hx (hb hby d_jdk_56m3_7) (q := 8) rfl rfl rfl ?_
  refine g_insN X283 hx hZ0 hown0 (wd88 hw) P3 (NS.no (wd84 hw) (wd119 hw) (NS.step (wd84 hw) (NS.step (wd85 hw) (NS.step (wd86 hw) (NS.root (wd87 hw) (wd119 hw) (by decide)) (by decide)) (by decide)) (by decide)) (by decide)) e283 (hb hby d_jdk_56m3_8) (q := 11) rfl ?_
  intro T284 X284 e284
  refine ifY X284 hx (hb hby d_jdk_56m3_11) (q := 31) (by decide) (by decide) (by decide) ?_
  refine aL X284 hx (hb hby d_jdk_56m3_31) (q := 32) rfl rfl rfl ?_
  refine g_if X284 hx hZ0 hown0 (wd89 hw) (wd90 hw) (wd91 hw) rfl (wd92 hw) (wd93 hw) (wd94 hw) (wd95 hw) (wd96 hw) (by decide) P3 e284 (Con.back (W := 0) (rm_isempty2 l Z a0 hw zC SC PC aE SE aD SD aM SM mO MO a1 h0 O0 P4) hZ0 (wd97 hw) (wd46 hw) (by decide) (by decide)) (by rw [hml]; rfl) (lenOf pd10 rfl) rfl (Nat.le_of_eq rfl) (hb hby d_jdk_56m3_32) (q := 37) rfl (by decide) (by decide) ?_
  intro v285 T285 L285 X285 Q285
  obtain ⟨rfl, Nq285, e285⟩ := Q285
  have N285 := Fr.app N0 Nq285
  show Go _ _ _ _ (T285.setTop (mkF m 37 #[.val (.ref a1), .unset] [(.int (0 : Int32))]))
  refine ifY X285 hx (hb hby d_jdk_56m3_37) (q := 44) (by decide) (by decide) (by decide) ?_
  refine aL X285 hx (hb hby d_jdk_56m3_44) (q := 45) rfl rfl rfl ?_
  refine g_if X285 hx hZ0 hown0 (wd210 hw) (wd211 hw) (wd212 hw) rfl (wd213 hw) (wd214 hw) (wd215 hw) (wd216 hw) (wd96 hw) (by decide) P3 e285 (Con.back (W := 0) (rm_toarr2 l Z a0 hw zC SC PC aE SE aD SD aM SM mO MO a1 r kr x0 x1 h0 O0 P3 P4 P5 P1 P2 PX0 PX1) hZ0 (wd217 hw) (wd46 hw) (by decide) (by decide)) (by rw [hml]; rfl) (lenOf pd4 rfl) rfl (Nat.le_of_eq rfl) (hb hby d_jdk_56m3_45) (q := 50) rfl (by decide) (by decide) ?_
  intro v286 T286 L286 X286 Q286
  obtain ⟨c_286, kc_286, rfl, Nq286, K286q, q286_0, q286_1⟩ := Q286
  have N286 := Fr.app N285 Nq286
  show Go _ _ _ _ (T286.setTop (mkF m 50 #[.val (.ref a1), .unset] [(.ref c_286)]))
  have f288 : Old Z Z.heap.size T286.heap := O0.keep K286q all0
  refine g_st X286 hx hZ0 hown0 (wd240 hw) (wd241 hw) (wd77 hw) (wd242 hw) (by decide) rfl (Con.back (W := 0) (rm_ofa2 l Z a0 hw zC SC PC aE SE aD SD aM SM mO MO c_286 kc_286 x0 x1 T286.heap f288 q286_1) hZ0 (wd242 hw) (wd77 hw) (by decide) (by decide)) (by rw [hml]; rfl) (lenOf pd11 rfl) rfl (Nat.le_of_eq rfl) (hb hby d_jdk_56m3_50) (q := 53) rfl (by decide) (by decide) ?_
  intro v287 T287 L287 X287 Q287
  obtain ⟨q_287, rfl, Nq287, K287q, q287_0, q287_1, q287_2, q287_3⟩ := Q287
  have N287 := Fr.app N286 Nq287
  show Go _ _ _ _ (T287.setTop (mkF m 53 #[.val (.ref a1), .unset] [(.ref q_287)]))
  have K289 : Keep h0 T286.heap [] := (Keep.refl h0 []).trans K286q all0
  have K290 : Keep h0 T287.heap [] := K289.trans K287q all0
  have le292 : (h0).size ≤ (T286.heap).size := K286q.1
  have gh291 : h0.size ≤ q_287 := Nat.le_trans le292 q287_0
  refine endP X287 hlk (fun h => by rw [hret] at h; cases h) (lastA X287 hx hret rfl rfl rfl (hb hby d_jdk_56m3_53)) ?_ (by decide) (by decide)
  exact ⟨q_287, rfl, N287, K290, gh291, q287_1, q287_2, q287_3⟩
def Q_co2 (Z : State) (zC : Int32) (aE : Addr) (aD : Addr) (aM : Addr) (mO : Addr) (a1 : Addr) (r : Addr) (kr : ClassId) (x0 : Addr) (x1 : Addr) (h0 : Heap) (v : Option Value) (h : Heap) (L : List Loc) : Prop := ∃ (q : Addr), v = some (.ref q) ∧ Fr Z.heap.size L ∧ Keep h0 h [] ∧ h0.size ≤ q ∧ Exa Z h q "java/util/ImmutableCollections$List12" ∧ Fld Z h q "java/util/ImmutableCollections$List12" "e0" "Ljava/lang/Object;" (.ref x0) ∧ Fld Z h q "java/util/ImmutableCollections$List12" "e1" "Ljava/lang/Object;" (.ref x1)
theorem rm_co2 (l : Launch) (Z : State) (a0 : Array Value) (hw : HW a0 Z) (zC : Int32) (SC : tSC Z zC) (PC : ¬ zC = (0 : Int32)) (aE : Addr) (SE : tSE Z aE) (aD : Addr) (SD : tSD Z aD) (aM : Addr) (SM : tSM Z aM) (mO : Addr) (MO : tMO Z mO) (a1 : Addr) (r : Addr) (kr : ClassId) (x0 : Addr) (x1 : Addr) (h0 : Heap) (O0 : Old Z Z.heap.size h0) (P3 : Exa Z h0 a1 "java/util/ArrayList") (P4 : Fld Z h0 a1 "java/util/ArrayList" "size" "I" (.int (2 : Int32))) (P5 : Fld Z h0 a1 "java/util/ArrayList" "elementData" "[Ljava/lang/Object;" (.ref r)) (P1 : Arv Z h0 r kr (.object "java/lang/Object") (10 : Int32) [(.ref x0), (.ref x1), .null, .null, .null, .null, .null, .null, .null, .null] .null) (P2 : Exa Z h0 r "[Ljava/lang/Object;") (PX0 : Exa Z h0 x0 "com/example/quaymark/quaymark/Review$LeftOut") (PX1 : Exa Z h0 x1 "com/example/quaymark/quaymark/Review$LeftOut") :
    Con l Z (⟨"java/util/List", "copyOf", "(Ljava/util/Collection;)Ljava/util/List;"⟩ : MethodName) jdk_40_method_48_code 1 (some (.object "java/util/List")) ({ frames := 7, cells := 2, slots := 4, locals := 89 } : Room) #[(.ref a1)] h0 (Q_co2 Z zC aE aD aM mO a1 r kr x0 x1 h0) := by
  refine Con.intro (plainFor_of_name pn14) ?_
  intro p e s m below meth c T0 X0 hx hby hml hown0 hnm hret hlk hZ0 e0
  have N0 := Fr.nil Z.heap.size
  refine castGo (g' := mkF m 0 #[.val (.ref a1)] []) (by first | rfl | (simp [entryFrame, mkF, argsToLocals, Value.category]; done)) ?_
  show Go _ _ _ _ (T0.setTop (mkF m 0 #[.val (.ref a1)] []))
  refine aL X0 hx (hb hby d_jdk_40m48_0) (q := 1) rfl rfl rfl ?_
  refine g_st X0 hx hZ0 hown0 (wd79 hw) (wd80 hw) (wd81 hw) (wd82 hw) (by decide) e0 (Con.back (W := 0) (rm_lc2 l Z a0 hw zC SC PC aE SE aD SD aM SM mO MO a1 r kr x0 x1 h0 O0 P3 P4 P5 P1 P2 PX0 PX1) hZ0 (wd82 hw) (wd81 hw) (by decide) (by decide)) (by rw [hml]; rfl) (lenOf pd12 rfl) rfl (Nat.le_of_eq rfl) (hb hby d_jdk_40m48_1) (q := 4) rfl (by decide) (by decide) ?_
  intro v293 T293 L293 X293 Q293
  obtain ⟨q_293, rfl, Nq293, K293q, q293_0, q293_1, q293_2, q293_3⟩ := Q293
  have N293 := Fr.app N0 Nq293
  show Go _ _ _ _ (T293.setTop (mkF m 4 #[.val (.ref a1)] [(.ref q_293)]))
  have K294 : Keep h0 T293.heap [] := (Keep.refl h0 []).trans K293q all0
  have gh295 : h0.size ≤ q_293 := Nat.le_trans (Nat.le_refl _) q293_0
  refine endP X293 hlk (fun h => by rw [hret] at h; cases h) (lastA X293 hx hret rfl rfl rfl (hb hby d_jdk_40m48_4)) ?_ (by decide) (by decide)
  exact ⟨q_293, rfl, N293, K294, gh295, q293_1, q293_2, q293_3⟩
theorem d_jdk_40m36_0 : decode jdk_40_method_36_code 0 = .ok (.getstatic 90, 3) := by decide +kernel
theorem wd103 {a0 : Array Value} {Z : State} (hw : HW a0 Z) : ((Jvm.Cond.fieldLink "java/util/List" (90 : Nat) "java/util/ImmutableCollections" "EMPTY_LIST" "Ljava/util/ImmutableCollections$ListN;") : Jvm.Cond).before a0 Z = true := hw _ (List.mem_of_getElem? (i := 103) rfl)
theorem d_jdk_40m36_3 : decode jdk_40_method_36_code 3 = .ok (.areturn, 1) := by decide +kernel
def Q_listof (Z : State) (zC : Int32) (aE : Addr) (aD : Addr) (aM : Addr) (mO : Addr) (h0 : Heap) (v : Option Value) (h : Heap) (L : List Loc) : Prop := v = some (.ref aE) ∧ Fr Z.heap.size L ∧ h = h0
theorem rm_listof (l : Launch) (Z : State) (a0 : Array Value) (hw : HW a0 Z) (zC : Int32) (SC : tSC Z zC) (PC : ¬ zC = (0 : Int32)) (aE : Addr) (SE : tSE Z aE) (aD : Addr) (SD : tSD Z aD) (aM : Addr) (SM : tSM Z aM) (mO : Addr) (MO : tMO Z mO)  (h0 : Heap) (O0 : Old Z Z.heap.size h0)  :
    Con l Z (⟨"java/util/List", "of", "()Ljava/util/List;"⟩ : MethodName) jdk_40_method_36_code 0 (some (.object "java/util/List")) ({ frames := 0, cells := 0, slots := 0, locals := 0 } : Room) #[] h0 (Q_listof Z zC aE aD aM mO h0) := by
  refine Con.intro (plainFor_of_name pn14) ?_
  intro p e s m below meth c T0 X0 hx hby hml hown0 hnm hret hlk hZ0 e0
  have N0 := Fr.nil Z.heap.size
  refine castGo (g' := mkF m 0 #[] []) (by first | rfl | (simp [entryFrame, mkF, argsToLocals, Value.category]; done)) ?_
  show Go _ _ _ _ (T0.setTop (mkF m 0 #[] []))
  refine g_getS X0 hx hZ0 hown0 (host := "") (Or.inl (wd103 hw)) Via.refl (SE.ext O0.2) e0 (hb hby d_jdk_40m36_0) (q := 3) rfl ?_
  intro T296 X296 e296
  refine endP X296 hlk (fun h => by rw [hret] at h; cases h) (lastA X296 hx hret rfl rfl rfl (hb hby d_jdk_40m36_3)) ?_ (by decide) (by decide)
  rw [e296]
  exact ⟨rfl, N0, rfl⟩
theorem d_jdk_56m3_40 : decode jdk_56_method_3_code 40 = .ok (.invokestatic 26, 3) := by decide +kernel
theorem wd102 {a0 : Array Value} {Z : State} (hw : HW a0 Z) : ((Jvm.Cond.code ({ cls := "java/util/List", name := "of", desc := "()Ljava/util/List;" } : Jvm.MethodName) jdk_40_method_36_code (0 : Nat) (Option.some (Jvm.ClassFile.FieldType.object "java/util/List"))) : Jvm.Cond).before a0 Z = true := hw _ (List.mem_of_getElem? (i := 102) rfl)
theorem pd14 : parseMethodDescriptor "()Ljava/util/List;" = some ⟨[], some (.object "java/util/List")⟩ := by decide +kernel
theorem wd100 {a0 : Array Value} {Z : State} (hw : HW a0 Z) : ((Jvm.Cond.methodLink "java/util/ImmutableCollections" (26 : Nat) ({ cls := "java/util/List", name := "of", desc := "()Ljava/util/List;" } : Jvm.MethodName)) : Jvm.Cond).before a0 Z = true := hw _ (List.mem_of_getElem? (i := 100) rfl)
theorem wd101 {a0 : Array Value} {Z : State} (hw : HW a0 Z) : ((Jvm.Cond.static ({ cls := "java/util/List", name := "of", desc := "()Ljava/util/List;" } : Jvm.MethodName)) : Jvm.Cond).before a0 Z = true := hw _ (List.mem_of_getElem? (i := 101) rfl)
theorem d_jdk_56m3_43 : decode jdk_56_method_3_code 43 = .ok (.areturn, 1) := by decide +kernel
def Q_lc0 (Z : State) (zC : Int32) (aE : Addr) (aD : Addr) (aM : Addr) (mO : Addr) (a1 : Addr) (h0 : Heap) (v : Option Value) (h : Heap) (L : List Loc) : Prop := v = some (.ref aE) ∧ Fr Z.heap.size L ∧ h = h0
theorem rm_lc0 (l : Launch) (Z : State) (a0 : Array Value) (hw : HW a0 Z) (zC : Int32) (SC : tSC Z zC) (PC : ¬ zC = (0 : Int32)) (aE : Addr) (SE : tSE Z aE) (aD : Addr) (SD : tSD Z aD) (aM : Addr) (SM : tSM Z aM) (mO : Addr) (MO : tMO Z mO) (a1 : Addr) (h0 : Heap) (O0 : Old Z Z.heap.size h0) (P3 : Exa Z h0 a1 "java/util/ArrayList") (P4 : Fld Z h0 a1 "java/util/ArrayList" "size" "I" (.int (0 : Int32))) :
    Con l Z (⟨"java/util/ImmutableCollections", "listCopy", "(Ljava/util/Collection;)Ljava/util/List;"⟩ : MethodName) jdk_56_method_3_code 2 (some (.object "java/util/List")) ({ frames := 1, cells := 0, slots := 0, locals := 12 } : Room) #[(.ref a1)] h0 (Q_lc0 Z zC aE aD aM mO a1 h0) := by
  refine Con.intro (plainFor_of_name pn15) ?_
  intro p e s m below meth c T0 X0 hx hby hml hown0 hnm hret hlk hZ0 e0
  have N0 := Fr.nil Z.heap.size
  refine castGo (g' := mkF m 0 #[.val (.ref a1), .unset] []) (by first | rfl | (simp [entryFrame, mkF, argsToLocals, Value.category]; done)) ?_
  show Go _ _ _ _ (T0.setTop (mkF m 0 #[.val (.ref a1), .unset] []))
  refine aL X0 hx (hb hby d_jdk_56m3_0) (q := 1) rfl rfl rfl ?_
  refine g_insN X0 hx hZ0 hown0 (wd83 hw) P3 (nsi_no (wd84 hw) (wd244 hw) (NS.step (wd84 hw) (NS.step (wd85 hw) (NS.step (wd86 hw) (nsi_root (wd87 hw) (wd244 hw) (by decide)) (by decide)) (by decide)) (by decide)) (by decide)) e0 (hb hby d_jdk_56m3_1) (q := 4) rfl ?_
  intro T297 X297 e297
  refine ifN X297 hx (hb hby d_jdk_56m3_4) (q := 7) rfl (by decide) ?_
  refine aL X297 hx (hb hby d_jdk_56m3_7) (q := 8) rfl rfl rfl ?_
  refine g_insN X297 hx hZ0 hown0 (wd88 hw) P3 (NS.no (wd84 hw) (wd119 hw) (NS.step (wd84 hw) (NS.step (wd85 hw) (NS.step (wd86 hw) (NS.root (wd87 hw) (wd119 hw) (by decide)) (by decide)) (by decide)) (by decide)) (by decide)) e297 (hb hby d_jdk_56m3_8) (q := 11) rfl ?_
  intro T298 X298 e298
  refine ifY X298 hx (hb hby d_jdk_56m3_11) (q := 31) (by decide) (by decide) (by decide) ?_
  refine aL X298 hx (hb hby d_jdk_56m3_31) (q := 32) rfl rfl rfl ?_
  refine g_if X298 hx hZ0 hown0 (wd89 hw) (wd90 hw) (wd91 hw) rfl (wd92 hw) (wd93 hw) (wd94 hw) (wd95 hw) (wd96 hw) (by decide) P3 e298 (Con.back (W := 0) (rm_isempty0 l Z a0 hw zC SC PC aE SE aD SD aM SM mO MO a1 h0 O0 P4) hZ0 (wd97 hw) (wd46 hw) (by decide) (by decide)) (by rw [hml]; rfl) (lenOf pd10 rfl) rfl (Nat.le_of_eq rfl) (hb hby d_jdk_56m3_32) (q := 37) rfl (by decide) (by decide) ?_
  intro v299 T299 L299 X299 Q299
  obtain ⟨rfl, Nq299, e299⟩ := Q299
  have N299 := Fr.app N0 Nq299
  show Go _ _ _ _ (T299.setTop (mkF m 37 #[.val (.ref a1), .unset] [(.int (1 : Int32))]))
  refine ifN X299 hx (hb hby d_jdk_56m3_37) (q := 40) rfl (by decide) ?_
  refine g_st X299 hx hZ0 hown0 (wd100 hw) (wd101 hw) (wd77 hw) (wd102 hw) (by decide) e299 (Con.back (W := 0) (rm_listof l Z a0 hw zC SC PC aE SE aD SD aM SM mO MO  h0 O0 ) hZ0 (wd102 hw) (wd77 hw) (by decide) (by decide)) (by rw [hml]; rfl) (lenOf pd14 rfl) rfl (Nat.le_of_eq rfl) (hb hby d_jdk_56m3_40) (q := 43) rfl (by decide) (by decide) ?_
  intro v300 T300 L300 X300 Q300
  obtain ⟨rfl, Nq300, e300⟩ := Q300
  have N300 := Fr.app N299 Nq300
  show Go _ _ _ _ (T300.setTop (mkF m 43 #[.val (.ref a1), .unset] [(.ref aE)]))
  refine endP X300 hlk (fun h => by rw [hret] at h; cases h) (lastA X300 hx hret rfl rfl rfl (hb hby d_jdk_56m3_43)) ?_ (by decide) (by decide)
  rw [e300]
  exact ⟨rfl, N300, rfl⟩
theorem wd121 {a0 : Array Value} {Z : State} (hw : HW a0 Z) : ((Jvm.Cond.superclass "java/util/ImmutableCollections$AbstractImmutableCollection" "java/util/AbstractCollection") : Jvm.Cond).before a0 Z = true := hw _ (List.mem_of_getElem? (i := 121) rfl)
theorem wd120 {a0 : Array Value} {Z : State} (hw : HW a0 Z) : ((Jvm.Cond.superclass "java/util/ImmutableCollections$AbstractImmutableList" "java/util/ImmutableCollections$AbstractImmutableCollection") : Jvm.Cond).before a0 Z = true := hw _ (List.mem_of_getElem? (i := 120) rfl)
theorem d_jdk_56m3_14 : decode jdk_56_method_3_code 14 = .ok (.aload_n 0, 1) := by decide +kernel
theorem d_jdk_56m3_15 : decode jdk_56_method_3_code 15 = .ok (.checkcast 12, 3) := by decide +kernel
theorem d_jdk_56m3_18 : decode jdk_56_method_3_code 18 = .ok (.astore_n 1, 1) := by decide +kernel
theorem d_jdk_56m3_19 : decode jdk_56_method_3_code 19 = .ok (.aload_n 1, 1) := by decide +kernel
theorem d_jdk_56m3_20 : decode jdk_56_method_3_code 20 = .ok (.getfield 14, 3) := by decide +kernel
theorem wd123 {a0 : Array Value} {Z : State} (hw : HW a0 Z) : ((Jvm.Cond.fieldLinkNest "java/util/ImmutableCollections" (14 : Nat) "java/util/ImmutableCollections$ListN" "allowNulls" "Z" "java/util/ImmutableCollections") : Jvm.Cond).before a0 Z = true := hw _ (List.mem_of_getElem? (i := 123) rfl)
theorem d_jdk_56m3_23 : decode jdk_56_method_3_code 23 = .ok (.ifCond .ne 8, 3) := by decide +kernel
theorem d_jdk_56m3_26 : decode jdk_56_method_3_code 26 = .ok (.aload_n 0, 1) := by decide +kernel
theorem d_jdk_56m3_27 : decode jdk_56_method_3_code 27 = .ok (.checkcast 18, 3) := by decide +kernel
theorem wd125 {a0 : Array Value} {Z : State} (hw : HW a0 Z) : ((Jvm.Cond.classLink "java/util/ImmutableCollections" (18 : Nat) "java/util/List") : Jvm.Cond).before a0 Z = true := hw _ (List.mem_of_getElem? (i := 125) rfl)
theorem wd126 {a0 : Array Value} {Z : State} (hw : HW a0 Z) : ((Jvm.Cond.castable "java/util/ImmutableCollections$ListN" "java/util/List") : Jvm.Cond).before a0 Z = true := hw _ (List.mem_of_getElem? (i := 126) rfl)
theorem d_jdk_56m3_30 : decode jdk_56_method_3_code 30 = .ok (.areturn, 1) := by decide +kernel
def Q_lcE (Z : State) (zC : Int32) (aE : Addr) (aD : Addr) (aM : Addr) (mO : Addr) (eA : Addr) (eK : ClassId) (eL : List Value) (h0 : Heap) (v : Option Value) (h : Heap) (L : List Loc) : Prop := v = some (.ref aE) ∧ Fr Z.heap.size L ∧ h = h0
theorem rm_lcE (l : Launch) (Z : State) (a0 : Array Value) (hw : HW a0 Z) (zC : Int32) (SC : tSC Z zC) (PC : ¬ zC = (0 : Int32)) (aE : Addr) (SE : tSE Z aE) (aD : Addr) (SD : tSD Z aD) (aM : Addr) (SM : tSM Z aM) (mO : Addr) (MO : tMO Z mO) (eA : Addr) (eK : ClassId) (eL : List Value) (h0 : Heap) (O0 : Old Z Z.heap.size h0) (PE1 : Exa Z h0 aE "java/util/ImmutableCollections$ListN") (PE2 : Fld Z h0 aE "java/util/ImmutableCollections$ListN" "elements" "[Ljava/lang/Object;" (.ref eA)) (PE3 : Arv Z h0 eA eK (.object "java/lang/Object") (0 : Int32) eL .null) (PE4 : Fld Z h0 aE "java/util/ImmutableCollections$ListN" "allowNulls" "Z" (.int (0 : Int32))) :
    Con l Z (⟨"java/util/ImmutableCollections", "listCopy", "(Ljava/util/Collection;)Ljava/util/List;"⟩ : MethodName) jdk_56_method_3_code 2 (some (.object "java/util/List")) ({ frames := 0, cells := 0, slots := 0, locals := 0 } : Room) #[(.ref aE)] h0 (Q_lcE Z zC aE aD aM mO eA eK eL h0) := by
  refine Con.intro (plainFor_of_name pn15) ?_
  intro p e s m below meth c T0 X0 hx hby hml hown0 hnm hret hlk hZ0 e0
  have N0 := Fr.nil Z.heap.size
  refine castGo (g' := mkF m 0 #[.val (.ref aE), .unset] []) (by first | rfl | (simp [entryFrame, mkF, argsToLocals, Value.category]; done)) ?_
  show Go _ _ _ _ (T0.setTop (mkF m 0 #[.val (.ref aE), .unset] []))
  refine aL X0 hx (hb hby d_jdk_56m3_0) (q := 1) rfl rfl rfl ?_
  refine g_insN X0 hx hZ0 hown0 (wd83 hw) PE1 (nsi_no (wd119 hw) (wd244 hw) (NS.step (wd119 hw) (NS.step (wd120 hw) (NS.step (wd121 hw) (NS.step (wd86 hw) (nsi_root (wd87 hw) (wd244 hw) (by decide)) (by decide)) (by decide)) (by decide)) (by decide)) (by decide)) e0 (hb hby d_jdk_56m3_1) (q := 4) rfl ?_
  intro T301 X301 e301
  refine ifN X301 hx (hb hby d_jdk_56m3_4) (q := 7) rfl (by decide) ?_
  refine aL X301 hx (hb hby d_jdk_56m3_7) (q := 8) rfl rfl rfl ?_
  refine g_insY X301 hx hZ0 hown0 (wd88 hw) (Ins.self PE1) e301 (hb hby d_jdk_56m3_8) (q := 11) rfl ?_
  intro T302 X302 e302
  refine ifN X302 hx (hb hby d_jdk_56m3_11) (q := 14) rfl (by decide) ?_
  refine aL X302 hx (hb hby d_jdk_56m3_14) (q := 15) rfl rfl rfl ?_
  refine g_cast X302 hx hZ0 hown0 (wd88 hw) (Ins.self PE1) e302 (hb hby d_jdk_56m3_15) (q := 18) rfl ?_
  intro T303 X303 e303
  refine sA X303 hx (hb hby d_jdk_56m3_18) (q := 19) rfl rfl (Ls' := #[.val (.ref aE), .val (.ref aE)]) rfl ?_
  refine aL X303 hx (hb hby d_jdk_56m3_19) (q := 20) rfl rfl rfl ?_
  refine g_getF X303 hx hZ0 hown0 (Or.inr (wd123 hw)) Via.refl PE4 e303 (hb hby d_jdk_56m3_20) (q := 23) rfl ?_
  intro T304 X304 e304
  refine ifN X304 hx (hb hby d_jdk_56m3_23) (q := 26) rfl (by decide) ?_
  refine aL X304 hx (hb hby d_jdk_56m3_26) (q := 27) rfl rfl rfl ?_
  refine g_cast X304 hx hZ0 hown0 (wd125 hw) (Ins.of_exa PE1 (wd126 hw)) e304 (hb hby d_jdk_56m3_27) (q := 30) rfl ?_
  intro T305 X305 e305
  refine endP X305 hlk (fun h => by rw [hret] at h; cases h) (lastA X305 hx hret rfl rfl rfl (hb hby d_jdk_56m3_30)) ?_ (by decide) (by decide)
  rw [e305]
  exact ⟨rfl, N0, rfl⟩
theorem wd273 {a0 : Array Value} {Z : State} (hw : HW a0 Z) : ((Jvm.Cond.castable "java/util/ImmutableCollections$List12" "java/util/List") : Jvm.Cond).before a0 Z = true := hw _ (List.mem_of_getElem? (i := 273) rfl)
def Q_lcL (Z : State) (zC : Int32) (aE : Addr) (aD : Addr) (aM : Addr) (mO : Addr) (a1 : Addr) (h0 : Heap) (v : Option Value) (h : Heap) (L : List Loc) : Prop := v = some (.ref a1) ∧ Fr Z.heap.size L ∧ h = h0
theorem rm_lcL (l : Launch) (Z : State) (a0 : Array Value) (hw : HW a0 Z) (zC : Int32) (SC : tSC Z zC) (PC : ¬ zC = (0 : Int32)) (aE : Addr) (SE : tSE Z aE) (aD : Addr) (SD : tSD Z aD) (aM : Addr) (SM : tSM Z aM) (mO : Addr) (MO : tMO Z mO) (a1 : Addr) (h0 : Heap) (O0 : Old Z Z.heap.size h0) (P1 : Exa Z h0 a1 "java/util/ImmutableCollections$List12") :
    Con l Z (⟨"java/util/ImmutableCollections", "listCopy", "(Ljava/util/Collection;)Ljava/util/List;"⟩ : MethodName) jdk_56_method_3_code 2 (some (.object "java/util/List")) ({ frames := 0, cells := 0, slots := 0, locals := 0 } : Room) #[(.ref a1)] h0 (Q_lcL Z zC aE aD aM mO a1 h0) := by
  refine Con.intro (plainFor_of_name pn15) ?_
  intro p e s m below meth c T0 X0 hx hby hml hown0 hnm hret hlk hZ0 e0
  have N0 := Fr.nil Z.heap.size
  refine castGo (g' := mkF m 0 #[.val (.ref a1), .unset] []) (by first | rfl | (simp [entryFrame, mkF, argsToLocals, Value.category]; done)) ?_
  show Go _ _ _ _ (T0.setTop (mkF m 0 #[.val (.ref a1), .unset] []))
  refine aL X0 hx (hb hby d_jdk_56m3_0) (q := 1) rfl rfl rfl ?_
  refine g_insY X0 hx hZ0 hown0 (wd83 hw) (Ins.self P1) e0 (hb hby d_jdk_56m3_1) (q := 4) rfl ?_
  intro T306 X306 e306
  refine ifY X306 hx (hb hby d_jdk_56m3_4) (q := 26) (by decide) (by decide) (by decide) ?_
  refine aL X306 hx (hb hby d_jdk_56m3_26) (q := 27) rfl rfl rfl ?_
  refine g_cast X306 hx hZ0 hown0 (wd125 hw) (Ins.of_exa P1 (wd273 hw)) e306 (hb hby d_jdk_56m3_27) (q := 30) rfl ?_
  intro T307 X307 e307
  refine endP X307 hlk (fun h => by rw [hret] at h; cases h) (lastA X307 hx hret rfl rfl rfl (hb hby d_jdk_56m3_30)) ?_ (by decide) (by decide)
  rw [e307]
  exact ⟨rfl, N0, rfl⟩
def Q_co0 (Z : State) (zC : Int32) (aE : Addr) (aD : Addr) (aM : Addr) (mO : Addr) (a1 : Addr) (h0 : Heap) (v : Option Value) (h : Heap) (L : List Loc) : Prop := v = some (.ref aE) ∧ Fr Z.heap.size L ∧ h = h0
theorem rm_co0 (l : Launch) (Z : State) (a0 : Array Value) (hw : HW a0 Z) (zC : Int32) (SC : tSC Z zC) (PC : ¬ zC = (0 : Int32)) (aE : Addr) (SE : tSE Z aE) (aD : Addr) (SD : tSD Z aD) (aM : Addr) (SM : tSM Z aM) (mO : Addr) (MO : tMO Z mO) (a1 : Addr) (h0 : Heap) (O0 : Old Z Z.heap.size h0) (P3 : Exa Z h0 a1 "java/util/ArrayList") (P4 : Fld Z h0 a1 "java/util/ArrayList" "size" "I" (.int (0 : Int32))) :
    Con l Z (⟨"java/util/List", "copyOf", "(Ljava/util/Collection;)Ljava/util/List;"⟩ : MethodName) jdk_40_method_48_code 1 (some (.object "java/util/List")) ({ frames := 2, cells := 0, slots := 0, locals := 25 } : Room) #[(.ref a1)] h0 (Q_co0 Z zC aE aD aM mO a1 h0) := by
  refine Con.intro (plainFor_of_name pn14) ?_
  intro p e s m below meth c T0 X0 hx hby hml hown0 hnm hret hlk hZ0 e0
  have N0 := Fr.nil Z.heap.size
  refine castGo (g' := mkF m 0 #[.val (.ref a1)] []) (by first | rfl | (simp [entryFrame, mkF, argsToLocals, Value.category]; done)) ?_
  show Go _ _ _ _ (T0.setTop (mkF m 0 #[.val (.ref a1)] []))
  refine aL X0 hx (hb hby d_jdk_40m48_0) (q := 1) rfl rfl rfl ?_
  refine g_st X0 hx hZ0 hown0 (wd79 hw) (wd80 hw) (wd81 hw) (wd82 hw) (by decide) e0 (Con.back (W := 0) (rm_lc0 l Z a0 hw zC SC PC aE SE aD SD aM SM mO MO a1 h0 O0 P3 P4) hZ0 (wd82 hw) (wd81 hw) (by decide) (by decide)) (by rw [hml]; rfl) (lenOf pd12 rfl) rfl (Nat.le_of_eq rfl) (hb hby d_jdk_40m48_1) (q := 4) rfl (by decide) (by decide) ?_
  intro v308 T308 L308 X308 Q308
  obtain ⟨rfl, Nq308, e308⟩ := Q308
  have N308 := Fr.app N0 Nq308
  show Go _ _ _ _ (T308.setTop (mkF m 4 #[.val (.ref a1)] [(.ref aE)]))
  refine endP X308 hlk (fun h => by rw [hret] at h; cases h) (lastA X308 hx hret rfl rfl rfl (hb hby d_jdk_40m48_4)) ?_ (by decide) (by decide)
  rw [e308]
  exact ⟨rfl, N308, rfl⟩
def Q_coE (Z : State) (zC : Int32) (aE : Addr) (aD : Addr) (aM : Addr) (mO : Addr) (eA : Addr) (eK : ClassId) (eL : List Value) (h0 : Heap) (v : Option Value) (h : Heap) (L : List Loc) : Prop := v = some (.ref aE) ∧ Fr Z.heap.size L ∧ h = h0
theorem rm_coE (l : Launch) (Z : State) (a0 : Array Value) (hw : HW a0 Z) (zC : Int32) (SC : tSC Z zC) (PC : ¬ zC = (0 : Int32)) (aE : Addr) (SE : tSE Z aE) (aD : Addr) (SD : tSD Z aD) (aM : Addr) (SM : tSM Z aM) (mO : Addr) (MO : tMO Z mO) (eA : Addr) (eK : ClassId) (eL : List Value) (h0 : Heap) (O0 : Old Z Z.heap.size h0) (PE1 : Exa Z h0 aE "java/util/ImmutableCollections$ListN") (PE2 : Fld Z h0 aE "java/util/ImmutableCollections$ListN" "elements" "[Ljava/lang/Object;" (.ref eA)) (PE3 : Arv Z h0 eA eK (.object "java/lang/Object") (0 : Int32) eL .null) (PE4 : Fld Z h0 aE "java/util/ImmutableCollections$ListN" "allowNulls" "Z" (.int (0 : Int32))) :
    Con l Z (⟨"java/util/List", "copyOf", "(Ljava/util/Collection;)Ljava/util/List;"⟩ : MethodName) jdk_40_method_48_code 1 (some (.object "java/util/List")) ({ frames := 1, cells := 0, slots := 0, locals := 13 } : Room) #[(.ref aE)] h0 (Q_coE Z zC aE aD aM mO eA eK eL h0) := by
  refine Con.intro (plainFor_of_name pn14) ?_
  intro p e s m below meth c T0 X0 hx hby hml hown0 hnm hret hlk hZ0 e0
  have N0 := Fr.nil Z.heap.size
  refine castGo (g' := mkF m 0 #[.val (.ref aE)] []) (by first | rfl | (simp [entryFrame, mkF, argsToLocals, Value.category]; done)) ?_
  show Go _ _ _ _ (T0.setTop (mkF m 0 #[.val (.ref aE)] []))
  refine aL X0 hx (hb hby d_jdk_40m48_0) (q := 1) rfl rfl rfl ?_
  refine g_st X0 hx hZ0 hown0 (wd79 hw) (wd80 hw) (wd81 hw) (wd82 hw) (by decide) e0 (Con.back (W := 0) (rm_lcE l Z a0 hw zC SC PC aE SE aD SD aM SM mO MO eA eK eL h0 O0 PE1 PE2 PE3 PE4) hZ0 (wd82 hw) (wd81 hw) (by decide) (by decide)) (by rw [hml]; rfl) (lenOf pd12 rfl) rfl (Nat.le_of_eq rfl) (hb hby d_jdk_40m48_1) (q := 4) rfl (by decide) (by decide) ?_
  intro v309 T309 L309 X309 Q309
  obtain ⟨rfl, Nq309, e309⟩ := Q309
  have N309 := Fr.app N0 Nq309
  show Go _ _ _ _ (T309.setTop (mkF m 4 #[.val (.ref aE)] [(.ref aE)]))
  refine endP X309 hlk (fun h => by rw [hret] at h; cases h) (lastA X309 hx hret rfl rfl rfl (hb hby d_jdk_40m48_4)) ?_ (by decide) (by decide)
  rw [e309]
  exact ⟨rfl, N309, rfl⟩
def Q_coL (Z : State) (zC : Int32) (aE : Addr) (aD : Addr) (aM : Addr) (mO : Addr) (a1 : Addr) (h0 : Heap) (v : Option Value) (h : Heap) (L : List Loc) : Prop := v = some (.ref a1) ∧ Fr Z.heap.size L ∧ h = h0
theorem rm_coL (l : Launch) (Z : State) (a0 : Array Value) (hw : HW a0 Z) (zC : Int32) (SC : tSC Z zC) (PC : ¬ zC = (0 : Int32)) (aE : Addr) (SE : tSE Z aE) (aD : Addr) (SD : tSD Z aD) (aM : Addr) (SM : tSM Z aM) (mO : Addr) (MO : tMO Z mO) (a1 : Addr) (h0 : Heap) (O0 : Old Z Z.heap.size h0) (P1 : Exa Z h0 a1 "java/util/ImmutableCollections$List12") :
    Con l Z (⟨"java/util/List", "copyOf", "(Ljava/util/Collection;)Ljava/util/List;"⟩ : MethodName) jdk_40_method_48_code 1 (some (.object "java/util/List")) ({ frames := 1, cells := 0, slots := 0, locals := 13 } : Room) #[(.ref a1)] h0 (Q_coL Z zC aE aD aM mO a1 h0) := by
  refine Con.intro (plainFor_of_name pn14) ?_
  intro p e s m below meth c T0 X0 hx hby hml hown0 hnm hret hlk hZ0 e0
  have N0 := Fr.nil Z.heap.size
  refine castGo (g' := mkF m 0 #[.val (.ref a1)] []) (by first | rfl | (simp [entryFrame, mkF, argsToLocals, Value.category]; done)) ?_
  show Go _ _ _ _ (T0.setTop (mkF m 0 #[.val (.ref a1)] []))
  refine aL X0 hx (hb hby d_jdk_40m48_0) (q := 1) rfl rfl rfl ?_
  refine g_st X0 hx hZ0 hown0 (wd79 hw) (wd80 hw) (wd81 hw) (wd82 hw) (by decide) e0 (Con.back (W := 0) (rm_lcL l Z a0 hw zC SC PC aE SE aD SD aM SM mO MO a1 h0 O0 P1) hZ0 (wd82 hw) (wd81 hw) (by decide) (by decide)) (by rw [hml]; rfl) (lenOf pd12 rfl) rfl (Nat.le_of_eq rfl) (hb hby d_jdk_40m48_1) (q := 4) rfl (by decide) (by decide) ?_
  intro v310 T310 L310 X310 Q310
  obtain ⟨rfl, Nq310, e310⟩ := Q310
  have N310 := Fr.app N0 Nq310
  show Go _ _ _ _ (T310.setTop (mkF m 4 #[.val (.ref a1)] [(.ref a1)]))
  refine endP X310 hlk (fun h => by rw [hret] at h; cases h) (lastA X310 hx hret rfl rfl rfl (hb hby d_jdk_40m48_4)) ?_ (by decide) (by decide)
  rw [e310]
  exact ⟨rfl, N310, rfl⟩
theorem d_prog_23m1_0 : decode prog_23_method_1_code 0 = .ok (.aload_n 0, 1) := by decide +kernel
theorem d_prog_23m1_1 : decode prog_23_method_1_code 1 = .ok (.invokespecial 1, 3) := by decide +kernel
theorem wd74 {a0 : Array Value} {Z : State} (hw : HW a0 Z) : ((Jvm.Cond.methodLink "com/example/quaymark/quaymark/Review" (1 : Nat) ({ cls := "java/lang/Record", name := "<init>", desc := "()V" } : Jvm.MethodName)) : Jvm.Cond).before a0 Z = true := hw _ (List.mem_of_getElem? (i := 74) rfl)
theorem d_prog_23m1_4 : decode prog_23_method_1_code 4 = .ok (.aload_n 2, 1) := by decide +kernel
theorem d_prog_23m1_5 : decode prog_23_method_1_code 5 = .ok (.invokestatic 7, 3) := by decide +kernel
theorem wd78 {a0 : Array Value} {Z : State} (hw : HW a0 Z) : ((Jvm.Cond.code ({ cls := "java/util/List", name := "copyOf", desc := "(Ljava/util/Collection;)Ljava/util/List;" } : Jvm.MethodName) jdk_40_method_48_code (1 : Nat) (Option.some (Jvm.ClassFile.FieldType.object "java/util/List"))) : Jvm.Cond).before a0 Z = true := hw _ (List.mem_of_getElem? (i := 78) rfl)
theorem wd75 {a0 : Array Value} {Z : State} (hw : HW a0 Z) : ((Jvm.Cond.methodLink "com/example/quaymark/quaymark/Review" (7 : Nat) ({ cls := "java/util/List", name := "copyOf", desc := "(Ljava/util/Collection;)Ljava/util/List;" } : Jvm.MethodName)) : Jvm.Cond).before a0 Z = true := hw _ (List.mem_of_getElem? (i := 75) rfl)
theorem wd76 {a0 : Array Value} {Z : State} (hw : HW a0 Z) : ((Jvm.Cond.static ({ cls := "java/util/List", name := "copyOf", desc := "(Ljava/util/Collection;)Ljava/util/List;" } : Jvm.MethodName)) : Jvm.Cond).before a0 Z = true := hw _ (List.mem_of_getElem? (i := 76) rfl)
theorem d_prog_23m1_8 : decode prog_23_method_1_code 8 = .ok (.astore_n 2, 1) := by decide +kernel
theorem d_prog_23m1_9 : decode prog_23_method_1_code 9 = .ok (.aload_n 0, 1) := by decide +kernel
theorem d_prog_23m1_10 : decode prog_23_method_1_code 10 = .ok (.aload_n 1, 1) := by decide +kernel
theorem d_prog_23m1_11 : decode prog_23_method_1_code 11 = .ok (.putfield 13, 3) := by decide +kernel
theorem wd104 {a0 : Array Value} {Z : State} (hw : HW a0 Z) : ((Jvm.Cond.fieldLink "com/example/quaymark/quaymark/Review" (13 : Nat) "com/example/quaymark/quaymark/Review" "submittedBy" "Ljava/lang/String;") : Jvm.Cond).before a0 Z = true := hw _ (List.mem_of_getElem? (i := 104) rfl)
theorem wd105 {a0 : Array Value} {Z : State} (hw : HW a0 Z) : ((Jvm.Cond.laysFinal "com/example/quaymark/quaymark/Review" "com/example/quaymark/quaymark/Review" "submittedBy" "Ljava/lang/String;") : Jvm.Cond).before a0 Z = true := hw _ (List.mem_of_getElem? (i := 105) rfl)
theorem wd69 {a0 : Array Value} {Z : State} (hw : HW a0 Z) : ((Jvm.Cond.instantiable "com/example/quaymark/quaymark/Review" (4 : Nat)) : Jvm.Cond).before a0 Z = true := hw _ (List.mem_of_getElem? (i := 69) rfl)
theorem d_prog_23m1_14 : decode prog_23_method_1_code 14 = .ok (.aload_n 0, 1) := by decide +kernel
theorem d_prog_23m1_15 : decode prog_23_method_1_code 15 = .ok (.aload_n 2, 1) := by decide +kernel
theorem d_prog_23m1_16 : decode prog_23_method_1_code 16 = .ok (.putfield 19, 3) := by decide +kernel
theorem wd106 {a0 : Array Value} {Z : State} (hw : HW a0 Z) : ((Jvm.Cond.fieldLink "com/example/quaymark/quaymark/Review" (19 : Nat) "com/example/quaymark/quaymark/Review" "leftOut" "Ljava/util/List;") : Jvm.Cond).before a0 Z = true := hw _ (List.mem_of_getElem? (i := 106) rfl)
theorem wd107 {a0 : Array Value} {Z : State} (hw : HW a0 Z) : ((Jvm.Cond.laysFinal "com/example/quaymark/quaymark/Review" "com/example/quaymark/quaymark/Review" "leftOut" "Ljava/util/List;") : Jvm.Cond).before a0 Z = true := hw _ (List.mem_of_getElem? (i := 107) rfl)
theorem d_prog_23m1_19 : decode prog_23_method_1_code 19 = .ok (.aload_n 0, 1) := by decide +kernel
theorem d_prog_23m1_20 : decode prog_23_method_1_code 20 = .ok (.aload_n 3, 1) := by decide +kernel
theorem d_prog_23m1_21 : decode prog_23_method_1_code 21 = .ok (.putfield 23, 3) := by decide +kernel
theorem wd108 {a0 : Array Value} {Z : State} (hw : HW a0 Z) : ((Jvm.Cond.fieldLink "com/example/quaymark/quaymark/Review" (23 : Nat) "com/example/quaymark/quaymark/Review" "signedOffBy" "Ljava/lang/String;") : Jvm.Cond).before a0 Z = true := hw _ (List.mem_of_getElem? (i := 108) rfl)
theorem wd109 {a0 : Array Value} {Z : State} (hw : HW a0 Z) : ((Jvm.Cond.laysFinal "com/example/quaymark/quaymark/Review" "com/example/quaymark/quaymark/Review" "signedOffBy" "Ljava/lang/String;") : Jvm.Cond).before a0 Z = true := hw _ (List.mem_of_getElem? (i := 109) rfl)
theorem d_prog_23m1_24 : decode prog_23_method_1_code 24 = .ok (.aload_n 0, 1) := by decide +kernel
theorem d_prog_23m1_25 : decode prog_23_method_1_code 25 = .ok (.aload 4, 2) := by decide +kernel
theorem d_prog_23m1_27 : decode prog_23_method_1_code 27 = .ok (.putfield 26, 3) := by decide +kernel
theorem wd110 {a0 : Array Value} {Z : State} (hw : HW a0 Z) : ((Jvm.Cond.fieldLink "com/example/quaymark/quaymark/Review" (26 : Nat) "com/example/quaymark/quaymark/Review" "withdrawn" "Lcom/example/quaymark/quaymark/Review$Withdrawal;") : Jvm.Cond).before a0 Z = true := hw _ (List.mem_of_getElem? (i := 110) rfl)
theorem wd111 {a0 : Array Value} {Z : State} (hw : HW a0 Z) : ((Jvm.Cond.laysFinal "com/example/quaymark/quaymark/Review" "com/example/quaymark/quaymark/Review" "withdrawn" "Lcom/example/quaymark/quaymark/Review$Withdrawal;") : Jvm.Cond).before a0 Z = true := hw _ (List.mem_of_getElem? (i := 111) rfl)
theorem d_prog_23m1_30 : decode prog_23_method_1_code 30 = .ok (.return_, 1) := by decide +kernel
def Q_rvE (Z : State) (zC : Int32) (aE : Addr) (aD : Addr) (aM : Addr) (mO : Addr) (a1 : Addr) (a2 : Addr) (vS : Value) (vB : Value) (eA : Addr) (eK : ClassId) (eL : List Value) (h0 : Heap) (v : Option Value) (h : Heap) (L : List Loc) : Prop := v = none ∧ Fr Z.heap.size L ∧ Keep h0 h [a1] ∧ Exa Z h a1 "com/example/quaymark/quaymark/Review" ∧ Fld Z h a1 "com/example/quaymark/quaymark/Review" "submittedBy" "Ljava/lang/String;" (.ref a2) ∧ Fld Z h a1 "com/example/quaymark/quaymark/Review" "leftOut" "Ljava/util/List;" (.ref aE) ∧ Fld Z h a1 "com/example/quaymark/quaymark/Review" "signedOffBy" "Ljava/lang/String;" vS ∧ Fld Z h a1 "com/example/quaymark/quaymark/Review" "withdrawn" "Lcom/example/quaymark/quaymark/Review$Withdrawal;" vB
theorem pn16 : plainName "com/example/quaymark/quaymark/Review" = true := by first | (simp [plainName, overriddenIn]; done) | decide +kernel
theorem rm_rvE (l : Launch) (Z : State) (a0 : Array Value) (hw : HW a0 Z) (zC : Int32) (SC : tSC Z zC) (PC : ¬ zC = (0 : Int32)) (aE : Addr) (SE : tSE Z aE) (aD : Addr) (SD : tSD Z aD) (aM : Addr) (SM : tSM Z aM) (mO : Addr) (MO : tMO Z mO) (a1 : Addr) (a2 : Addr) (vS : Value) (vB : Value) (eA : Addr) (eK : ClassId) (eL : List Value) (h0 : Heap) (O0 : Old Z Z.heap.size h0) (P1r : Exa Z h0 a1 "com/example/quaymark/quaymark/Review") (P2r : Fld Z h0 a1 "com/example/quaymark/quaymark/Review" "submittedBy" "Ljava/lang/String;" .null) (P3r : Fld Z h0 a1 "com/example/quaymark/quaymark/Review" "leftOut" "Ljava/util/List;" .null) (P4r : Fld Z h0 a1 "com/example/quaymark/quaymark/Review" "signedOffBy" "Ljava/lang/String;" .null) (P5r : Fld Z h0 a1 "com/example/quaymark/quaymark/Review" "withdrawn" "Lcom/example/quaymark/quaymark/Review$Withdrawal;" .null) (P6r : Z.heap.size ≤ a1) (P7r : vS.isRef = true) (P8r : vB.isRef = true) (PE1 : Exa Z h0 aE "java/util/ImmutableCollections$ListN") (PE2 : Fld Z h0 aE "java/util/ImmutableCollections$ListN" "elements" "[Ljava/lang/Object;" (.ref eA)) (PE3 : Arv Z h0 eA eK (.object "java/lang/Object") (0 : Int32) eL .null) (PE4 : Fld Z h0 aE "java/util/ImmutableCollections$ListN" "allowNulls" "Z" (.int (0 : Int32))) :
    Con l Z (⟨"com/example/quaymark/quaymark/Review", "<init>", "(Ljava/lang/String;Ljava/util/List;Ljava/lang/String;Lcom/example/quaymark/quaymark/Review$Withdrawal;)V"⟩ : MethodName) prog_23_method_1_code 5 none ({ frames := 2, cells := 0, slots := 0, locals := 25 } : Room) #[(.ref a1), (.ref a2), (.ref aE), vS, vB] h0 (Q_rvE Z zC aE aD aM mO a1 a2 vS vB eA eK eL h0) := by
  refine Con.intro (plainFor_of_name pn16) ?_
  intro p e s m below meth c T0 X0 hx hby hml hown0 hnm hret hlk hZ0 e0
  have N0 := Fr.nil Z.heap.size
  refine castGo (g' := mkF m 0 #[.val (.ref a1), .val (.ref a2), .val (.ref aE), .val vS, .val vB] []) (by rcases ref_cases P7r with q0 | ⟨_, q0⟩ <;> rw [q0] <;> rcases ref_cases P8r with q1 | ⟨_, q1⟩ <;> rw [q1] <;> rfl) ?_
  show Go _ _ _ _ (T0.setTop (mkF m 0 #[.val (.ref a1), .val (.ref a2), .val (.ref aE), .val vS, .val vB] []))
  refine aL X0 hx (hb hby d_prog_23m1_0) (q := 1) rfl rfl rfl ?_
  refine g_sp X0 hx hZ0 hown0 (wd74 hw) (wd33 hw) (wd36 hw) rfl (by decide) e0 (Con.back (W := 0) (rm_recinit l Z a0 hw zC SC PC aE SE aD SD aM SM mO MO a1 h0 O0 ) hZ0 (wd36 hw) (wd35 hw) (by decide) (by decide)) (by rw [hml]; rfl) (lenOf pd1 rfl) rfl (Nat.le_of_eq rfl) (hb hby d_prog_23m1_1) (q := 4) rfl (by decide) (by decide) ?_
  intro v311 T311 L311 X311 Q311
  obtain ⟨rfl, Nq311, e311⟩ := Q311
  have N311 := Fr.app N0 Nq311
  show Go _ _ _ _ (T311.setTop (mkF m 4 #[.val (.ref a1), .val (.ref a2), .val (.ref aE), .val vS, .val vB] []))
  refine aL X311 hx (hb hby d_prog_23m1_4) (q := 5) rfl rfl rfl ?_
  refine g_st X311 hx hZ0 hown0 (wd75 hw) (wd76 hw) (wd77 hw) (wd78 hw) (by decide) e311 (Con.back (W := 0) (rm_coE l Z a0 hw zC SC PC aE SE aD SD aM SM mO MO eA eK eL h0 O0 PE1 PE2 PE3 PE4) hZ0 (wd78 hw) (wd77 hw) (by decide) (by decide)) (by rw [hml]; rfl) (lenOf pd12 rfl) rfl (Nat.le_of_eq rfl) (hb hby d_prog_23m1_5) (q := 8) rfl (by decide) (by decide) ?_
  intro v312 T312 L312 X312 Q312
  obtain ⟨rfl, Nq312, e312⟩ := Q312
  have N312 := Fr.app N311 Nq312
  show Go _ _ _ _ (T312.setTop (mkF m 8 #[.val (.ref a1), .val (.ref a2), .val (.ref aE), .val vS, .val vB] [(.ref aE)]))
  refine sA X312 hx (hb hby d_prog_23m1_8) (q := 9) rfl rfl (Ls' := #[.val (.ref a1), .val (.ref a2), .val (.ref aE), .val vS, .val vB]) rfl ?_
  refine aL X312 hx (hb hby d_prog_23m1_9) (q := 10) rfl rfl rfl ?_
  refine aL X312 hx (hb hby d_prog_23m1_10) (q := 11) rfl rfl rfl ?_
  refine g_putF X312 hx hZ0 hown0 (host := "") (Or.inl (wd104 hw)) Via.refl P2r P1r (Or.inr ⟨(wd105 hw), rfl, hnm⟩) (wd69 hw) (ty := (.object "java/lang/String")) (by decide) rfl rfl e312 (hb hby d_prog_23m1_11) (q := 14) rfl ?_
  intro T313 h313 X313 e313 W313
  have N313 := Fr.snoc X313 N312 P6r
  have Fw313 : Fld Z h313 a1 "com/example/quaymark/quaymark/Review" "submittedBy" "Ljava/lang/String;" (.ref a2) := P2r.same W313
  refine aL X313 hx (hb hby d_prog_23m1_14) (q := 15) rfl rfl rfl ?_
  refine aL X313 hx (hb hby d_prog_23m1_15) (q := 16) rfl rfl rfl ?_
  have f314 : Fld Z h313 a1 "com/example/quaymark/quaymark/Review" "leftOut" "Ljava/util/List;" .null := P3r.other W313 (Or.inr (slot_ne (Or.inr (wd107 hw)) (Or.inr (wd105 hw)) (by decide) (t := (.object "java/util/List")) (t' := (.object "java/lang/String")) (by decide) (by decide)))
  have f315 : Exa Z h313 a1 "com/example/quaymark/quaymark/Review" := P1r.wr W313
  refine g_putF X313 hx hZ0 hown0 (host := "") (Or.inl (wd106 hw)) Via.refl f314 f315 (Or.inr ⟨(wd107 hw), rfl, hnm⟩) (wd69 hw) (ty := (.object "java/util/List")) (by decide) rfl rfl e313 (hb hby d_prog_23m1_16) (q := 19) rfl ?_
  intro T316 h316 X316 e316 W316
  have N316 := Fr.snoc X316 N313 P6r
  have Fw316 : Fld Z h316 a1 "com/example/quaymark/quaymark/Review" "leftOut" "Ljava/util/List;" (.ref aE) := f314.same W316
  refine aL X316 hx (hb hby d_prog_23m1_19) (q := 20) rfl rfl rfl ?_
  refine aL X316 hx (hb hby d_prog_23m1_20) (q := 21) rfl rfl P7r ?_
  have f317 : Fld Z h313 a1 "com/example/quaymark/quaymark/Review" "signedOffBy" "Ljava/lang/String;" .null := P4r.other W313 (Or.inr (slot_ne (Or.inr (wd109 hw)) (Or.inr (wd105 hw)) (by decide) (t := (.object "java/lang/String")) (t' := (.object "java/lang/String")) (by decide) (by decide)))
  have f318 : Fld Z h316 a1 "com/example/quaymark/quaymark/Review" "signedOffBy" "Ljava/lang/String;" .null := f317.other W316 (Or.inr (slot_ne (Or.inr (wd109 hw)) (Or.inr (wd107 hw)) (by decide) (t := (.object "java/lang/String")) (t' := (.object "java/util/List")) (by decide) (by decide)))
  have f319 : Exa Z h316 a1 "com/example/quaymark/quaymark/Review" := f315.wr W316
  refine g_putF X316 hx hZ0 hown0 (host := "") (Or.inl (wd108 hw)) Via.refl f318 f319 (Or.inr ⟨(wd109 hw), rfl, hnm⟩) (wd69 hw) (ty := (.object "java/lang/String")) (by decide) (own_nref P7r) (own_fref P7r) e316 (hb hby d_prog_23m1_21) (q := 24) rfl ?_
  intro T320 h320 X320 e320 W320
  have N320 := Fr.snoc X320 N316 P6r
  have Fw320 : Fld Z h320 a1 "com/example/quaymark/quaymark/Review" "signedOffBy" "Ljava/lang/String;" vS := f318.same W320
  refine aL X320 hx (hb hby d_prog_23m1_24) (q := 25) rfl rfl rfl ?_
  refine aLw X320 hx (hb hby d_prog_23m1_25) (q := 27) rfl rfl P8r ?_
  have f321 : Fld Z h313 a1 "com/example/quaymark/quaymark/Review" "withdrawn" "Lcom/example/quaymark/quaymark/Review$Withdrawal;" .null := P5r.other W313 (Or.inr (slot_ne (Or.inr (wd111 hw)) (Or.inr (wd105 hw)) (by decide) (t := (.object "com/example/quaymark/quaymark/Review$Withdrawal")) (t' := (.object "java/lang/String")) (by decide) (by decide)))
  have f322 : Fld Z h316 a1 "com/example/quaymark/quaymark/Review" "withdrawn" "Lcom/example/quaymark/quaymark/Review$Withdrawal;" .null := f321.other W316 (Or.inr (slot_ne (Or.inr (wd111 hw)) (Or.inr (wd107 hw)) (by decide) (t := (.object "com/example/quaymark/quaymark/Review$Withdrawal")) (t' := (.object "java/util/List")) (by decide) (by decide)))
  have f323 : Fld Z h320 a1 "com/example/quaymark/quaymark/Review" "withdrawn" "Lcom/example/quaymark/quaymark/Review$Withdrawal;" .null := f322.other W320 (Or.inr (slot_ne (Or.inr (wd111 hw)) (Or.inr (wd109 hw)) (by decide) (t := (.object "com/example/quaymark/quaymark/Review$Withdrawal")) (t' := (.object "java/lang/String")) (by decide) (by decide)))
  have f324 : Exa Z h320 a1 "com/example/quaymark/quaymark/Review" := f319.wr W320
  refine g_putF X320 hx hZ0 hown0 (host := "") (Or.inl (wd110 hw)) Via.refl f323 f324 (Or.inr ⟨(wd111 hw), rfl, hnm⟩) (wd69 hw) (ty := (.object "com/example/quaymark/quaymark/Review$Withdrawal")) (by decide) (own_nref P8r) (own_fref P8r) e320 (hb hby d_prog_23m1_27) (q := 30) rfl ?_
  intro T325 h325 X325 e325 W325
  have N325 := Fr.snoc X325 N320 P6r
  have Fw325 : Fld Z h325 a1 "com/example/quaymark/quaymark/Review" "withdrawn" "Lcom/example/quaymark/quaymark/Review$Withdrawal;" vB := f323.same W325
  have K326 : Keep h0 h313 [a1] := (Keep.refl h0 [a1]).wr W313 (Or.inl (by simp))
  have K327 : Keep h0 h316 [a1] := K326.wr W316 (Or.inl (by simp))
  have K328 : Keep h0 h320 [a1] := K327.wr W320 (Or.inl (by simp))
  have K329 : Keep h0 h325 [a1] := K328.wr W325 (Or.inl (by simp))
  have f330 : Exa Z h325 a1 "com/example/quaymark/quaymark/Review" := f324.wr W325
  have f331 : Fld Z h316 a1 "com/example/quaymark/quaymark/Review" "submittedBy" "Ljava/lang/String;" (.ref a2) := Fw313.other W316 (Or.inr (slot_ne (Or.inr (wd105 hw)) (Or.inr (wd107 hw)) (by decide) (t := (.object "java/lang/String")) (t' := (.object "java/util/List")) (by decide) (by decide)))
  have f332 : Fld Z h320 a1 "com/example/quaymark/quaymark/Review" "submittedBy" "Ljava/lang/String;" (.ref a2) := f331.other W320 (Or.inr (slot_ne (Or.inr (wd105 hw)) (Or.inr (wd109 hw)) (by decide) (t := (.object "java/lang/String")) (t' := (.object "java/lang/String")) (by decide) (by decide)))
  have f333 : Fld Z h325 a1 "com/example/quaymark/quaymark/Review" "submittedBy" "Ljava/lang/String;" (.ref a2) := f332.other W325 (Or.inr (slot_ne (Or.inr (wd105 hw)) (Or.inr (wd111 hw)) (by decide) (t := (.object "java/lang/String")) (t' := (.object "com/example/quaymark/quaymark/Review$Withdrawal")) (by decide) (by decide)))
  have f334 : Fld Z h320 a1 "com/example/quaymark/quaymark/Review" "leftOut" "Ljava/util/List;" (.ref aE) := Fw316.other W320 (Or.inr (slot_ne (Or.inr (wd107 hw)) (Or.inr (wd109 hw)) (by decide) (t := (.object "java/util/List")) (t' := (.object "java/lang/String")) (by decide) (by decide)))
  have f335 : Fld Z h325 a1 "com/example/quaymark/quaymark/Review" "leftOut" "Ljava/util/List;" (.ref aE) := f334.other W325 (Or.inr (slot_ne (Or.inr (wd107 hw)) (Or.inr (wd111 hw)) (by decide) (t := (.object "java/util/List")) (t' := (.object "com/example/quaymark/quaymark/Review$Withdrawal")) (by decide) (by decide)))
  have f336 : Fld Z h325 a1 "com/example/quaymark/quaymark/Review" "signedOffBy" "Ljava/lang/String;" vS := Fw320.other W325 (Or.inr (slot_ne (Or.inr (wd109 hw)) (Or.inr (wd111 hw)) (by decide) (t := (.object "java/lang/String")) (t' := (.object "com/example/quaymark/quaymark/Review$Withdrawal")) (by decide) (by decide)))
  refine endP X325 hlk (fun _ => rfl) (lastV X325 hx hret (hb hby d_prog_23m1_30)) ?_ (by decide) (by decide)
  rw [e325]
  exact ⟨rfl, N325, K329, f330, f333, f335, f336, Fw325⟩
def Q_rvL (Z : State) (zC : Int32) (aE : Addr) (aD : Addr) (aM : Addr) (mO : Addr) (a1 : Addr) (a2 : Addr) (vS : Value) (vB : Value) (a3 : Addr) (h0 : Heap) (v : Option Value) (h : Heap) (L : List Loc) : Prop := v = none ∧ Fr Z.heap.size L ∧ Keep h0 h [a1] ∧ Exa Z h a1 "com/example/quaymark/quaymark/Review" ∧ Fld Z h a1 "com/example/quaymark/quaymark/Review" "submittedBy" "Ljava/lang/String;" (.ref a2) ∧ Fld Z h a1 "com/example/quaymark/quaymark/Review" "leftOut" "Ljava/util/List;" (.ref a3) ∧ Fld Z h a1 "com/example/quaymark/quaymark/Review" "signedOffBy" "Ljava/lang/String;" vS ∧ Fld Z h a1 "com/example/quaymark/quaymark/Review" "withdrawn" "Lcom/example/quaymark/quaymark/Review$Withdrawal;" vB
theorem rm_rvL (l : Launch) (Z : State) (a0 : Array Value) (hw : HW a0 Z) (zC : Int32) (SC : tSC Z zC) (PC : ¬ zC = (0 : Int32)) (aE : Addr) (SE : tSE Z aE) (aD : Addr) (SD : tSD Z aD) (aM : Addr) (SM : tSM Z aM) (mO : Addr) (MO : tMO Z mO) (a1 : Addr) (a2 : Addr) (vS : Value) (vB : Value) (a3 : Addr) (h0 : Heap) (O0 : Old Z Z.heap.size h0) (P1r : Exa Z h0 a1 "com/example/quaymark/quaymark/Review") (P2r : Fld Z h0 a1 "com/example/quaymark/quaymark/Review" "submittedBy" "Ljava/lang/String;" .null) (P3r : Fld Z h0 a1 "com/example/quaymark/quaymark/Review" "leftOut" "Ljava/util/List;" .null) (P4r : Fld Z h0 a1 "com/example/quaymark/quaymark/Review" "signedOffBy" "Ljava/lang/String;" .null) (P5r : Fld Z h0 a1 "com/example/quaymark/quaymark/Review" "withdrawn" "Lcom/example/quaymark/quaymark/Review$Withdrawal;" .null) (P6r : Z.heap.size ≤ a1) (P7r : vS.isRef = true) (P8r : vB.isRef = true) (P9r : Exa Z h0 a3 "java/util/ImmutableCollections$List12") :
    Con l Z (⟨"com/example/quaymark/quaymark/Review", "<init>", "(Ljava/lang/String;Ljava/util/List;Ljava/lang/String;Lcom/example/quaymark/quaymark/Review$Withdrawal;)V"⟩ : MethodName) prog_23_method_1_code 5 none ({ frames := 2, cells := 0, slots := 0, locals := 25 } : Room) #[(.ref a1), (.ref a2), (.ref a3), vS, vB] h0 (Q_rvL Z zC aE aD aM mO a1 a2 vS vB a3 h0) := by
  refine Con.intro (plainFor_of_name pn16) ?_
  intro p e s m below meth c T0 X0 hx hby hml hown0 hnm hret hlk hZ0 e0
  have N0 := Fr.nil Z.heap.size
  refine castGo (g' := mkF m 0 #[.val (.ref a1), .val (.ref a2), .val (.ref a3), .val vS, .val vB] []) (by rcases ref_cases P7r with q0 | ⟨_, q0⟩ <;> rw [q0] <;> rcases ref_cases P8r with q1 | ⟨_, q1⟩ <;> rw [q1] <;> rfl) ?_
  show Go _ _ _ _ (T0.setTop (mkF m 0 #[.val (.ref a1), .val (.ref a2), .val (.ref a3), .val vS, .val vB] []))
  refine aL X0 hx (hb hby d_prog_23m1_0) (q := 1) rfl rfl rfl ?_
  refine g_sp X0 hx hZ0 hown0 (wd74 hw) (wd33 hw) (wd36 hw) rfl (by decide) e0 (Con.back (W := 0) (rm_recinit l Z a0 hw zC SC PC aE SE aD SD aM SM mO MO a1 h0 O0 ) hZ0 (wd36 hw) (wd35 hw) (by decide) (by decide)) (by rw [hml]; rfl) (lenOf pd1 rfl) rfl (Nat.le_of_eq rfl) (hb hby d_prog_23m1_1) (q := 4) rfl (by decide) (by decide) ?_
  intro v337 T337 L337 X337 Q337
  obtain ⟨rfl, Nq337, e337⟩ := Q337
  have N337 := Fr.app N0 Nq337
  show Go _ _ _ _ (T337.setTop (mkF m 4 #[.val (.ref a1), .val (.ref a2), .val (.ref a3), .val vS, .val vB] []))
  refine aL X337 hx (hb hby d_prog_23m1_4) (q := 5) rfl rfl rfl ?_
  refine g_st X337 hx hZ0 hown0 (wd75 hw) (wd76 hw) (wd77 hw) (wd78 hw) (by decide) e337 (Con.back (W := 0) (rm_coL l Z a0 hw zC SC PC aE SE aD SD aM SM mO MO a3 h0 O0 P9r) hZ0 (wd78 hw) (wd77 hw) (by decide) (by decide)) (by rw [hml]; rfl) (lenOf pd12 rfl) rfl (Nat.le_of_eq rfl) (hb hby d_prog_23m1_5) (q := 8) rfl (by decide) (by decide) ?_
  intro v338 T338 L338 X338 Q338
  obtain ⟨rfl, Nq338, e338⟩ := Q338
  have N338 := Fr.app N337 Nq338
  show Go _ _ _ _ (T338.setTop (mkF m 8 #[.val (.ref a1), .val (.ref a2), .val (.ref a3), .val vS, .val vB] [(.ref a3)]))
  refine sA X338 hx (hb hby d_prog_23m1_8) (q := 9) rfl rfl (Ls' := #[.val (.ref a1), .val (.ref a2), .val (.ref a3), .val vS, .val vB]) rfl ?_
  refine aL X338 hx (hb hby d_prog_23m1_9) (q := 10) rfl rfl rfl ?_
  refine aL X338 hx (hb hby d_prog_23m1_10) (q := 11) rfl rfl rfl ?_
  refine g_putF X338 hx hZ0 hown0 (host := "") (Or.inl (wd104 hw)) Via.refl P2r P1r (Or.inr ⟨(wd105 hw), rfl, hnm⟩) (wd69 hw) (ty := (.object "java/lang/String")) (by decide) rfl rfl e338 (hb hby d_prog_23m1_11) (q := 14) rfl ?_
  intro T339 h339 X339 e339 W339
  have N339 := Fr.snoc X339 N338 P6r
  have Fw339 : Fld Z h339 a1 "com/example/quaymark/quaymark/Review" "submittedBy" "Ljava/lang/String;" (.ref a2) := P2r.same W339
  refine aL X339 hx (hb hby d_prog_23m1_14) (q := 15) rfl rfl rfl ?_
  refine aL X339 hx (hb hby d_prog_23m1_15) (q := 16) rfl rfl rfl ?_
  have f340 : Fld Z h339 a1 "com/example/quaymark/quaymark/Review" "leftOut" "Ljava/util/List;" .null := P3r.other W339 (Or.inr (slot_ne (Or.inr (wd107 hw)) (Or.inr (wd105 hw)) (by decide) (t := (.object "java/util/List")) (t' := (.object "java/lang/String")) (by decide) (by decide)))
  have f341 : Exa Z h339 a1 "com/example/quaymark/quaymark/Review" := P1r.wr W339
  refine g_putF X339 hx hZ0 hown0 (host := "") (Or.inl (wd106 hw)) Via.refl f340 f341 (Or.inr ⟨(wd107 hw), rfl, hnm⟩) (wd69 hw) (ty := (.object "java/util/List")) (by decide) rfl rfl e339 (hb hby d_prog_23m1_16) (q := 19) rfl ?_
  intro T342 h342 X342 e342 W342
  have N342 := Fr.snoc X342 N339 P6r
  have Fw342 : Fld Z h342 a1 "com/example/quaymark/quaymark/Review" "leftOut" "Ljava/util/List;" (.ref a3) := f340.same W342
  refine aL X342 hx (hb hby d_prog_23m1_19) (q := 20) rfl rfl rfl ?_
  refine aL X342 hx (hb hby d_prog_23m1_20) (q := 21) rfl rfl P7r ?_
  have f343 : Fld Z h339 a1 "com/example/quaymark/quaymark/Review" "signedOffBy" "Ljava/lang/String;" .null := P4r.other W339 (Or.inr (slot_ne (Or.inr (wd109 hw)) (Or.inr (wd105 hw)) (by decide) (t := (.object "java/lang/String")) (t' := (.object "java/lang/String")) (by decide) (by decide)))
  have f344 : Fld Z h342 a1 "com/example/quaymark/quaymark/Review" "signedOffBy" "Ljava/lang/String;" .null := f343.other W342 (Or.inr (slot_ne (Or.inr (wd109 hw)) (Or.inr (wd107 hw)) (by decide) (t := (.object "java/lang/String")) (t' := (.object "java/util/List")) (by decide) (by decide)))
  have f345 : Exa Z h342 a1 "com/example/quaymark/quaymark/Review" := f341.wr W342
  refine g_putF X342 hx hZ0 hown0 (host := "") (Or.inl (wd108 hw)) Via.refl f344 f345 (Or.inr ⟨(wd109 hw), rfl, hnm⟩) (wd69 hw) (ty := (.object "java/lang/String")) (by decide) (own_nref P7r) (own_fref P7r) e342 (hb hby d_prog_23m1_21) (q := 24) rfl ?_
  intro T346 h346 X346 e346 W346
  have N346 := Fr.snoc X346 N342 P6r
  have Fw346 : Fld Z h346 a1 "com/example/quaymark/quaymark/Review" "signedOffBy" "Ljava/lang/String;" vS := f344.same W346
  refine aL X346 hx (hb hby d_prog_23m1_24) (q := 25) rfl rfl rfl ?_
  refine aLw X346 hx (hb hby d_prog_23m1_25) (q := 27) rfl rfl P8r ?_
  have f347 : Fld Z h339 a1 "com/example/quaymark/quaymark/Review" "withdrawn" "Lcom/example/quaymark/quaymark/Review$Withdrawal;" .null := P5r.other W339 (Or.inr (slot_ne (Or.inr (wd111 hw)) (Or.inr (wd105 hw)) (by decide) (t := (.object "com/example/quaymark/quaymark/Review$Withdrawal")) (t' := (.object "java/lang/String")) (by decide) (by decide)))
  have f348 : Fld Z h342 a1 "com/example/quaymark/quaymark/Review" "withdrawn" "Lcom/example/quaymark/quaymark/Review$Withdrawal;" .null := f347.other W342 (Or.inr (slot_ne (Or.inr (wd111 hw)) (Or.inr (wd107 hw)) (by decide) (t := (.object "com/example/quaymark/quaymark/Review$Withdrawal")) (t' := (.object "java/util/List")) (by decide) (by decide)))
  have f349 : Fld Z h346 a1 "com/example/quaymark/quaymark/Review" "withdrawn" "Lcom/example/quaymark/quaymark/Review$Withdrawal;" .null := f348.other W346 (Or.inr (slot_ne (Or.inr (wd111 hw)) (Or.inr (wd109 hw)) (by decide) (t := (.object "com/example/quaymark/quaymark/Review$Withdrawal")) (t' := (.object "java/lang/String")) (by decide) (by decide)))
  have f350 : Exa Z h346 a1 "com/example/quaymark/quaymark/Review" := f345.wr W346
  refine g_putF X346 hx hZ0 hown0 (host := "") (Or.inl (wd110 hw)) Via.refl f349 f350 (Or.inr ⟨(wd111 hw), rfl, hnm⟩) (wd69 hw) (ty := (.object "com/example/quaymark/quaymark/Review$Withdrawal")) (by decide) (own_nref P8r) (own_fref P8r) e346 (hb hby d_prog_23m1_27) (q := 30) rfl ?_
  intro T351 h351 X351 e351 W351
  have N351 := Fr.snoc X351 N346 P6r
  have Fw351 : Fld Z h351 a1 "com/example/quaymark/quaymark/Review" "withdrawn" "Lcom/example/quaymark/quaymark/Review$Withdrawal;" vB := f349.same W351
  have K352 : Keep h0 h339 [a1] := (Keep.refl h0 [a1]).wr W339 (Or.inl (by simp))
  have K353 : Keep h0 h342 [a1] := K352.wr W342 (Or.inl (by simp))
  have K354 : Keep h0 h346 [a1] := K353.wr W346 (Or.inl (by simp))
  have K355 : Keep h0 h351 [a1] := K354.wr W351 (Or.inl (by simp))
  have f356 : Exa Z h351 a1 "com/example/quaymark/quaymark/Review" := f350.wr W351
  have f357 : Fld Z h342 a1 "com/example/quaymark/quaymark/Review" "submittedBy" "Ljava/lang/String;" (.ref a2) := Fw339.other W342 (Or.inr (slot_ne (Or.inr (wd105 hw)) (Or.inr (wd107 hw)) (by decide) (t := (.object "java/lang/String")) (t' := (.object "java/util/List")) (by decide) (by decide)))
  have f358 : Fld Z h346 a1 "com/example/quaymark/quaymark/Review" "submittedBy" "Ljava/lang/String;" (.ref a2) := f357.other W346 (Or.inr (slot_ne (Or.inr (wd105 hw)) (Or.inr (wd109 hw)) (by decide) (t := (.object "java/lang/String")) (t' := (.object "java/lang/String")) (by decide) (by decide)))
  have f359 : Fld Z h351 a1 "com/example/quaymark/quaymark/Review" "submittedBy" "Ljava/lang/String;" (.ref a2) := f358.other W351 (Or.inr (slot_ne (Or.inr (wd105 hw)) (Or.inr (wd111 hw)) (by decide) (t := (.object "java/lang/String")) (t' := (.object "com/example/quaymark/quaymark/Review$Withdrawal")) (by decide) (by decide)))
  have f360 : Fld Z h346 a1 "com/example/quaymark/quaymark/Review" "leftOut" "Ljava/util/List;" (.ref a3) := Fw342.other W346 (Or.inr (slot_ne (Or.inr (wd107 hw)) (Or.inr (wd109 hw)) (by decide) (t := (.object "java/util/List")) (t' := (.object "java/lang/String")) (by decide) (by decide)))
  have f361 : Fld Z h351 a1 "com/example/quaymark/quaymark/Review" "leftOut" "Ljava/util/List;" (.ref a3) := f360.other W351 (Or.inr (slot_ne (Or.inr (wd107 hw)) (Or.inr (wd111 hw)) (by decide) (t := (.object "java/util/List")) (t' := (.object "com/example/quaymark/quaymark/Review$Withdrawal")) (by decide) (by decide)))
  have f362 : Fld Z h351 a1 "com/example/quaymark/quaymark/Review" "signedOffBy" "Ljava/lang/String;" vS := Fw346.other W351 (Or.inr (slot_ne (Or.inr (wd109 hw)) (Or.inr (wd111 hw)) (by decide) (t := (.object "java/lang/String")) (t' := (.object "com/example/quaymark/quaymark/Review$Withdrawal")) (by decide) (by decide)))
  refine endP X351 hlk (fun _ => rfl) (lastV X351 hx hret (hb hby d_prog_23m1_30)) ?_ (by decide) (by decide)
  rw [e351]
  exact ⟨rfl, N351, K355, f356, f359, f361, f362, Fw351⟩
def Q_rv0 (Z : State) (zC : Int32) (aE : Addr) (aD : Addr) (aM : Addr) (mO : Addr) (a1 : Addr) (a2 : Addr) (vS : Value) (vB : Value) (a3 : Addr) (h0 : Heap) (v : Option Value) (h : Heap) (L : List Loc) : Prop := v = none ∧ Fr Z.heap.size L ∧ Keep h0 h [a1] ∧ Exa Z h a1 "com/example/quaymark/quaymark/Review" ∧ Fld Z h a1 "com/example/quaymark/quaymark/Review" "submittedBy" "Ljava/lang/String;" (.ref a2) ∧ Fld Z h a1 "com/example/quaymark/quaymark/Review" "leftOut" "Ljava/util/List;" (.ref aE) ∧ Fld Z h a1 "com/example/quaymark/quaymark/Review" "signedOffBy" "Ljava/lang/String;" vS ∧ Fld Z h a1 "com/example/quaymark/quaymark/Review" "withdrawn" "Lcom/example/quaymark/quaymark/Review$Withdrawal;" vB
theorem rm_rv0 (l : Launch) (Z : State) (a0 : Array Value) (hw : HW a0 Z) (zC : Int32) (SC : tSC Z zC) (PC : ¬ zC = (0 : Int32)) (aE : Addr) (SE : tSE Z aE) (aD : Addr) (SD : tSD Z aD) (aM : Addr) (SM : tSM Z aM) (mO : Addr) (MO : tMO Z mO) (a1 : Addr) (a2 : Addr) (vS : Value) (vB : Value) (a3 : Addr) (h0 : Heap) (O0 : Old Z Z.heap.size h0) (P1r : Exa Z h0 a1 "com/example/quaymark/quaymark/Review") (P2r : Fld Z h0 a1 "com/example/quaymark/quaymark/Review" "submittedBy" "Ljava/lang/String;" .null) (P3r : Fld Z h0 a1 "com/example/quaymark/quaymark/Review" "leftOut" "Ljava/util/List;" .null) (P4r : Fld Z h0 a1 "com/example/quaymark/quaymark/Review" "signedOffBy" "Ljava/lang/String;" .null) (P5r : Fld Z h0 a1 "com/example/quaymark/quaymark/Review" "withdrawn" "Lcom/example/quaymark/quaymark/Review$Withdrawal;" .null) (P6r : Z.heap.size ≤ a1) (P7r : vS.isRef = true) (P8r : vB.isRef = true) (P3 : Exa Z h0 a3 "java/util/ArrayList") (P4 : Fld Z h0 a3 "java/util/ArrayList" "size" "I" (.int (0 : Int32))) :
    Con l Z (⟨"com/example/quaymark/quaymark/Review", "<init>", "(Ljava/lang/String;Ljava/util/List;Ljava/lang/String;Lcom/example/quaymark/quaymark/Review$Withdrawal;)V"⟩ : MethodName) prog_23_method_1_code 5 none ({ frames := 3, cells := 0, slots := 0, locals := 37 } : Room) #[(.ref a1), (.ref a2), (.ref a3), vS, vB] h0 (Q_rv0 Z zC aE aD aM mO a1 a2 vS vB a3 h0) := by
  refine Con.intro (plainFor_of_name pn16) ?_
  intro p e s m below meth c T0 X0 hx hby hml hown0 hnm hret hlk hZ0 e0
  have N0 := Fr.nil Z.heap.size
  refine castGo (g' := mkF m 0 #[.val (.ref a1), .val (.ref a2), .val (.ref a3), .val vS, .val vB] []) (by rcases ref_cases P7r with q0 | ⟨_, q0⟩ <;> rw [q0] <;> rcases ref_cases P8r with q1 | ⟨_, q1⟩ <;> rw [q1] <;> rfl) ?_
  show Go _ _ _ _ (T0.setTop (mkF m 0 #[.val (.ref a1), .val (.ref a2), .val (.ref a3), .val vS, .val vB] []))
  refine aL X0 hx (hb hby d_prog_23m1_0) (q := 1) rfl rfl rfl ?_
  refine g_sp X0 hx hZ0 hown0 (wd74 hw) (wd33 hw) (wd36 hw) rfl (by decide) e0 (Con.back (W := 0) (rm_recinit l Z a0 hw zC SC PC aE SE aD SD aM SM mO MO a1 h0 O0 ) hZ0 (wd36 hw) (wd35 hw) (by decide) (by decide)) (by rw [hml]; rfl) (lenOf pd1 rfl) rfl (Nat.le_of_eq rfl) (hb hby d_prog_23m1_1) (q := 4) rfl (by decide) (by decide) ?_
  intro v363 T363 L363 X363 Q363
  obtain ⟨rfl, Nq363, e363⟩ := Q363
  have N363 := Fr.app N0 Nq363
  show Go _ _ _ _ (T363.setTop (mkF m 4 #[.val (.ref a1), .val (.ref a2), .val (.ref a3), .val vS, .val vB] []))
  refine aL X363 hx (hb hby d_prog_23m1_4) (q := 5) rfl rfl rfl ?_
  refine g_st X363 hx hZ0 hown0 (wd75 hw) (wd76 hw) (wd77 hw) (wd78 hw) (by decide) e363 (Con.back (W := 0) (rm_co0 l Z a0 hw zC SC PC aE SE aD SD aM SM mO MO a3 h0 O0 P3 P4) hZ0 (wd78 hw) (wd77 hw) (by decide) (by decide)) (by rw [hml]; rfl) (lenOf pd12 rfl) rfl (Nat.le_of_eq rfl) (hb hby d_prog_23m1_5) (q := 8) rfl (by decide) (by decide) ?_
  intro v364 T364 L364 X364 Q364
  obtain ⟨rfl, Nq364, e364⟩ := Q364
  have N364 := Fr.app N363 Nq364
  show Go _ _ _ _ (T364.setTop (mkF m 8 #[.val (.ref a1), .val (.ref a2), .val (.ref a3), .val vS, .val vB] [(.ref aE)]))
  refine sA X364 hx (hb hby d_prog_23m1_8) (q := 9) rfl rfl (Ls' := #[.val (.ref a1), .val (.ref a2), .val (.ref aE), .val vS, .val vB]) rfl ?_
  refine aL X364 hx (hb hby d_prog_23m1_9) (q := 10) rfl rfl rfl ?_
  refine aL X364 hx (hb hby d_prog_23m1_10) (q := 11) rfl rfl rfl ?_
  refine g_putF X364 hx hZ0 hown0 (host := "") (Or.inl (wd104 hw)) Via.refl P2r P1r (Or.inr ⟨(wd105 hw), rfl, hnm⟩) (wd69 hw) (ty := (.object "java/lang/String")) (by decide) rfl rfl e364 (hb hby d_prog_23m1_11) (q := 14) rfl ?_
  intro T365 h365 X365 e365 W365
  have N365 := Fr.snoc X365 N364 P6r
  have Fw365 : Fld Z h365 a1 "com/example/quaymark/quaymark/Review" "submittedBy" "Ljava/lang/String;" (.ref a2) := P2r.same W365
  refine aL X365 hx (hb hby d_prog_23m1_14) (q := 15) rfl rfl rfl ?_
  refine aL X365 hx (hb hby d_prog_23m1_15) (q := 16) rfl rfl rfl ?_
  have f366 : Fld Z h365 a1 "com/example/quaymark/quaymark/Review" "leftOut" "Ljava/util/List;" .null := P3r.other W365 (Or.inr (slot_ne (Or.inr (wd107 hw)) (Or.inr (wd105 hw)) (by decide) (t := (.object "java/util/List")) (t' := (.object "java/lang/String")) (by decide) (by decide)))
  have f367 : Exa Z h365 a1 "com/example/quaymark/quaymark/Review" := P1r.wr W365
  refine g_putF X365 hx hZ0 hown0 (host := "") (Or.inl (wd106 hw)) Via.refl f366 f367 (Or.inr ⟨(wd107 hw), rfl, hnm⟩) (wd69 hw) (ty := (.object "java/util/List")) (by decide) rfl rfl e365 (hb hby d_prog_23m1_16) (q := 19) rfl ?_
  intro T368 h368 X368 e368 W368
  have N368 := Fr.snoc X368 N365 P6r
  have Fw368 : Fld Z h368 a1 "com/example/quaymark/quaymark/Review" "leftOut" "Ljava/util/List;" (.ref aE) := f366.same W368
  refine aL X368 hx (hb hby d_prog_23m1_19) (q := 20) rfl rfl rfl ?_
  refine aL X368 hx (hb hby d_prog_23m1_20) (q := 21) rfl rfl P7r ?_
  have f369 : Fld Z h365 a1 "com/example/quaymark/quaymark/Review" "signedOffBy" "Ljava/lang/String;" .null := P4r.other W365 (Or.inr (slot_ne (Or.inr (wd109 hw)) (Or.inr (wd105 hw)) (by decide) (t := (.object "java/lang/String")) (t' := (.object "java/lang/String")) (by decide) (by decide)))
  have f370 : Fld Z h368 a1 "com/example/quaymark/quaymark/Review" "signedOffBy" "Ljava/lang/String;" .null := f369.other W368 (Or.inr (slot_ne (Or.inr (wd109 hw)) (Or.inr (wd107 hw)) (by decide) (t := (.object "java/lang/String")) (t' := (.object "java/util/List")) (by decide) (by decide)))
  have f371 : Exa Z h368 a1 "com/example/quaymark/quaymark/Review" := f367.wr W368
  refine g_putF X368 hx hZ0 hown0 (host := "") (Or.inl (wd108 hw)) Via.refl f370 f371 (Or.inr ⟨(wd109 hw), rfl, hnm⟩) (wd69 hw) (ty := (.object "java/lang/String")) (by decide) (own_nref P7r) (own_fref P7r) e368 (hb hby d_prog_23m1_21) (q := 24) rfl ?_
  intro T372 h372 X372 e372 W372
  have N372 := Fr.snoc X372 N368 P6r
  have Fw372 : Fld Z h372 a1 "com/example/quaymark/quaymark/Review" "signedOffBy" "Ljava/lang/String;" vS := f370.same W372
  refine aL X372 hx (hb hby d_prog_23m1_24) (q := 25) rfl rfl rfl ?_
  refine aLw X372 hx (hb hby d_prog_23m1_25) (q := 27) rfl rfl P8r ?_
  have f373 : Fld Z h365 a1 "com/example/quaymark/quaymark/Review" "withdrawn" "Lcom/example/quaymark/quaymark/Review$Withdrawal;" .null := P5r.other W365 (Or.inr (slot_ne (Or.inr (wd111 hw)) (Or.inr (wd105 hw)) (by decide) (t := (.object "com/example/quaymark/quaymark/Review$Withdrawal")) (t' := (.object "java/lang/String")) (by decide) (by decide)))
  have f374 : Fld Z h368 a1 "com/example/quaymark/quaymark/Review" "withdrawn" "Lcom/example/quaymark/quaymark/Review$Withdrawal;" .null := f373.other W368 (Or.inr (slot_ne (Or.inr (wd111 hw)) (Or.inr (wd107 hw)) (by decide) (t := (.object "com/example/quaymark/quaymark/Review$Withdrawal")) (t' := (.object "java/util/List")) (by decide) (by decide)))
  have f375 : Fld Z h372 a1 "com/example/quaymark/quaymark/Review" "withdrawn" "Lcom/example/quaymark/quaymark/Review$Withdrawal;" .null := f374.other W372 (Or.inr (slot_ne (Or.inr (wd111 hw)) (Or.inr (wd109 hw)) (by decide) (t := (.object "com/example/quaymark/quaymark/Review$Withdrawal")) (t' := (.object "java/lang/String")) (by decide) (by decide)))
  have f376 : Exa Z h372 a1 "com/example/quaymark/quaymark/Review" := f371.wr W372
  refine g_putF X372 hx hZ0 hown0 (host := "") (Or.inl (wd110 hw)) Via.refl f375 f376 (Or.inr ⟨(wd111 hw), rfl, hnm⟩) (wd69 hw) (ty := (.object "com/example/quaymark/quaymark/Review$Withdrawal")) (by decide) (own_nref P8r) (own_fref P8r) e372 (hb hby d_prog_23m1_27) (q := 30) rfl ?_
  intro T377 h377 X377 e377 W377
  have N377 := Fr.snoc X377 N372 P6r
  have Fw377 : Fld Z h377 a1 "com/example/quaymark/quaymark/Review" "withdrawn" "Lcom/example/quaymark/quaymark/Review$Withdrawal;" vB := f375.same W377
  have K378 : Keep h0 h365 [a1] := (Keep.refl h0 [a1]).wr W365 (Or.inl (by simp))
  have K379 : Keep h0 h368 [a1] := K378.wr W368 (Or.inl (by simp))
  have K380 : Keep h0 h372 [a1] := K379.wr W372 (Or.inl (by simp))
  have K381 : Keep h0 h377 [a1] := K380.wr W377 (Or.inl (by simp))
  have f382 : Exa Z h377 a1 "com/example/quaymark/quaymark/Review" := f376.wr W377
  have f383 : Fld Z h368 a1 "com/example/quaymark/quaymark/Review" "submittedBy" "Ljava/lang/String;" (.ref a2) := Fw365.other W368 (Or.inr (slot_ne (Or.inr (wd105 hw)) (Or.inr (wd107 hw)) (by decide) (t := (.object "java/lang/String")) (t' := (.object "java/util/List")) (by decide) (by decide)))
  have f384 : Fld Z h372 a1 "com/example/quaymark/quaymark/Review" "submittedBy" "Ljava/lang/String;" (.ref a2) := f383.other W372 (Or.inr (slot_ne (Or.inr (wd105 hw)) (Or.inr (wd109 hw)) (by decide) (t := (.object "java/lang/String")) (t' := (.object "java/lang/String")) (by decide) (by decide)))
  have f385 : Fld Z h377 a1 "com/example/quaymark/quaymark/Review" "submittedBy" "Ljava/lang/String;" (.ref a2) := f384.other W377 (Or.inr (slot_ne (Or.inr (wd105 hw)) (Or.inr (wd111 hw)) (by decide) (t := (.object "java/lang/String")) (t' := (.object "com/example/quaymark/quaymark/Review$Withdrawal")) (by decide) (by decide)))
  have f386 : Fld Z h372 a1 "com/example/quaymark/quaymark/Review" "leftOut" "Ljava/util/List;" (.ref aE) := Fw368.other W372 (Or.inr (slot_ne (Or.inr (wd107 hw)) (Or.inr (wd109 hw)) (by decide) (t := (.object "java/util/List")) (t' := (.object "java/lang/String")) (by decide) (by decide)))
  have f387 : Fld Z h377 a1 "com/example/quaymark/quaymark/Review" "leftOut" "Ljava/util/List;" (.ref aE) := f386.other W377 (Or.inr (slot_ne (Or.inr (wd107 hw)) (Or.inr (wd111 hw)) (by decide) (t := (.object "java/util/List")) (t' := (.object "com/example/quaymark/quaymark/Review$Withdrawal")) (by decide) (by decide)))
  have f388 : Fld Z h377 a1 "com/example/quaymark/quaymark/Review" "signedOffBy" "Ljava/lang/String;" vS := Fw372.other W377 (Or.inr (slot_ne (Or.inr (wd109 hw)) (Or.inr (wd111 hw)) (by decide) (t := (.object "java/lang/String")) (t' := (.object "com/example/quaymark/quaymark/Review$Withdrawal")) (by decide) (by decide)))
  refine endP X377 hlk (fun _ => rfl) (lastV X377 hx hret (hb hby d_prog_23m1_30)) ?_ (by decide) (by decide)
  rw [e377]
  exact ⟨rfl, N377, K381, f382, f385, f387, f388, Fw377⟩
def Q_rv1 (Z : State) (zC : Int32) (aE : Addr) (aD : Addr) (aM : Addr) (mO : Addr) (a1 : Addr) (a2 : Addr) (vS : Value) (vB : Value) (a3 : Addr) (r : Addr) (kr : ClassId) (x0 : Addr) (h0 : Heap) (v : Option Value) (h : Heap) (L : List Loc) : Prop := ∃ (q : Addr), v = none ∧ Fr Z.heap.size L ∧ Keep h0 h [a1] ∧ Exa Z h a1 "com/example/quaymark/quaymark/Review" ∧ Fld Z h a1 "com/example/quaymark/quaymark/Review" "submittedBy" "Ljava/lang/String;" (.ref a2) ∧ Fld Z h a1 "com/example/quaymark/quaymark/Review" "leftOut" "Ljava/util/List;" (.ref q) ∧ Fld Z h a1 "com/example/quaymark/quaymark/Review" "signedOffBy" "Ljava/lang/String;" vS ∧ Fld Z h a1 "com/example/quaymark/quaymark/Review" "withdrawn" "Lcom/example/quaymark/quaymark/Review$Withdrawal;" vB ∧ h0.size ≤ q ∧ Exa Z h q "java/util/ImmutableCollections$List12" ∧ Fld Z h q "java/util/ImmutableCollections$List12" "e0" "Ljava/lang/Object;" (.ref x0) ∧ Fld Z h q "java/util/ImmutableCollections$List12" "e1" "Ljava/lang/Object;" (.ref aM)
theorem rm_rv1 (l : Launch) (Z : State) (a0 : Array Value) (hw : HW a0 Z) (zC : Int32) (SC : tSC Z zC) (PC : ¬ zC = (0 : Int32)) (aE : Addr) (SE : tSE Z aE) (aD : Addr) (SD : tSD Z aD) (aM : Addr) (SM : tSM Z aM) (mO : Addr) (MO : tMO Z mO) (a1 : Addr) (a2 : Addr) (vS : Value) (vB : Value) (a3 : Addr) (r : Addr) (kr : ClassId) (x0 : Addr) (h0 : Heap) (O0 : Old Z Z.heap.size h0) (P1r : Exa Z h0 a1 "com/example/quaymark/quaymark/Review") (P2r : Fld Z h0 a1 "com/example/quaymark/quaymark/Review" "submittedBy" "Ljava/lang/String;" .null) (P3r : Fld Z h0 a1 "com/example/quaymark/quaymark/Review" "leftOut" "Ljava/util/List;" .null) (P4r : Fld Z h0 a1 "com/example/quaymark/quaymark/Review" "signedOffBy" "Ljava/lang/String;" .null) (P5r : Fld Z h0 a1 "com/example/quaymark/quaymark/Review" "withdrawn" "Lcom/example/quaymark/quaymark/Review$Withdrawal;" .null) (P6r : Z.heap.size ≤ a1) (P7r : vS.isRef = true) (P8r : vB.isRef = true) (P3 : Exa Z h0 a3 "java/util/ArrayList") (P4 : Fld Z h0 a3 "java/util/ArrayList" "size" "I" (.int (1 : Int32))) (P5 : Fld Z h0 a3 "java/util/ArrayList" "elementData" "[Ljava/lang/Object;" (.ref r)) (P1 : Arv Z h0 r kr (.object "java/lang/Object") (10 : Int32) [(.ref x0), .null, .null, .null, .null, .null, .null, .null, .null, .null] .null) (P2 : Exa Z h0 r "[Ljava/lang/Object;") (PX0 : Exa Z h0 x0 "com/example/quaymark/quaymark/Review$LeftOut") :
    Con l Z (⟨"com/example/quaymark/quaymark/Review", "<init>", "(Ljava/lang/String;Ljava/util/List;Ljava/lang/String;Lcom/example/quaymark/quaymark/Review$Withdrawal;)V"⟩ : MethodName) prog_23_method_1_code 5 none ({ frames := 8, cells := 2, slots := 3, locals := 100 } : Room) #[(.ref a1), (.ref a2), (.ref a3), vS, vB] h0 (Q_rv1 Z zC aE aD aM mO a1 a2 vS vB a3 r kr x0 h0) := by
  refine Con.intro (plainFor_of_name pn16) ?_
  intro p e s m below meth c T0 X0 hx hby hml hown0 hnm hret hlk hZ0 e0
  have N0 := Fr.nil Z.heap.size
  refine castGo (g' := mkF m 0 #[.val (.ref a1), .val (.ref a2), .val (.ref a3), .val vS, .val vB] []) (by rcases ref_cases P7r with q0 | ⟨_, q0⟩ <;> rw [q0] <;> rcases ref_cases P8r with q1 | ⟨_, q1⟩ <;> rw [q1] <;> rfl) ?_
  show Go _ _ _ _ (T0.setTop (mkF m 0 #[.val (.ref a1), .val (.ref a2), .val (.ref a3), .val vS, .val vB] []))
  refine aL X0 hx (hb hby d_prog_23m1_0) (q := 1) rfl rfl rfl ?_
  refine g_sp X0 hx hZ0 hown0 (wd74 hw) (wd33 hw) (wd36 hw) rfl (by decide) e0 (Con.back (W := 0) (rm_recinit l Z a0 hw zC SC PC aE SE aD SD aM SM mO MO a1 h0 O0 ) hZ0 (wd36 hw) (wd35 hw) (by decide) (by decide)) (by rw [hml]; rfl) (lenOf pd1 rfl) rfl (Nat.le_of_eq rfl) (hb hby d_prog_23m1_1) (q := 4) rfl (by decide) (by decide) ?_
  intro v389 T389 L389 X389 Q389
  obtain ⟨rfl, Nq389, e389⟩ := Q389
  have N389 := Fr.app N0 Nq389
  show Go _ _ _ _ (T389.setTop (mkF m 4 #[.val (.ref a1), .val (.ref a2), .val (.ref a3), .val vS, .val vB] []))
  refine aL X389 hx (hb hby d_prog_23m1_4) (q := 5) rfl rfl rfl ?_
  refine g_st X389 hx hZ0 hown0 (wd75 hw) (wd76 hw) (wd77 hw) (wd78 hw) (by decide) e389 (Con.back (W := 0) (rm_co1 l Z a0 hw zC SC PC aE SE aD SD aM SM mO MO a3 r kr x0 h0 O0 P3 P4 P5 P1 P2 PX0) hZ0 (wd78 hw) (wd77 hw) (by decide) (by decide)) (by rw [hml]; rfl) (lenOf pd12 rfl) rfl (Nat.le_of_eq rfl) (hb hby d_prog_23m1_5) (q := 8) rfl (by decide) (by decide) ?_
  intro v390 T390 L390 X390 Q390
  obtain ⟨q_390, rfl, Nq390, K390q, q390_0, q390_1, q390_2, q390_3⟩ := Q390
  have N390 := Fr.app N389 Nq390
  show Go _ _ _ _ (T390.setTop (mkF m 8 #[.val (.ref a1), .val (.ref a2), .val (.ref a3), .val vS, .val vB] [(.ref q_390)]))
  refine sA X390 hx (hb hby d_prog_23m1_8) (q := 9) rfl rfl (Ls' := #[.val (.ref a1), .val (.ref a2), .val (.ref q_390), .val vS, .val vB]) rfl ?_
  refine aL X390 hx (hb hby d_prog_23m1_9) (q := 10) rfl rfl rfl ?_
  refine aL X390 hx (hb hby d_prog_23m1_10) (q := 11) rfl rfl rfl ?_
  have f391 : Fld Z T390.heap a1 "com/example/quaymark/quaymark/Review" "submittedBy" "Ljava/lang/String;" .null := P2r.keep K390q nin0
  have f392 : Exa Z T390.heap a1 "com/example/quaymark/quaymark/Review" := P1r.keep K390q
  refine g_putF X390 hx hZ0 hown0 (host := "") (Or.inl (wd104 hw)) Via.refl f391 f392 (Or.inr ⟨(wd105 hw), rfl, hnm⟩) (wd69 hw) (ty := (.object "java/lang/String")) (by decide) rfl rfl rfl (hb hby d_prog_23m1_11) (q := 14) rfl ?_
  intro T393 h393 X393 e393 W393
  have N393 := Fr.snoc X393 N390 P6r
  have Fw393 : Fld Z h393 a1 "com/example/quaymark/quaymark/Review" "submittedBy" "Ljava/lang/String;" (.ref a2) := f391.same W393
  refine aL X393 hx (hb hby d_prog_23m1_14) (q := 15) rfl rfl rfl ?_
  refine aL X393 hx (hb hby d_prog_23m1_15) (q := 16) rfl rfl rfl ?_
  have f394 : Fld Z T390.heap a1 "com/example/quaymark/quaymark/Review" "leftOut" "Ljava/util/List;" .null := P3r.keep K390q nin0
  have f395 : Fld Z h393 a1 "com/example/quaymark/quaymark/Review" "leftOut" "Ljava/util/List;" .null := f394.other W393 (Or.inr (slot_ne (Or.inr (wd107 hw)) (Or.inr (wd105 hw)) (by decide) (t := (.object "java/util/List")) (t' := (.object "java/lang/String")) (by decide) (by decide)))
  have f396 : Exa Z h393 a1 "com/example/quaymark/quaymark/Review" := f392.wr W393
  refine g_putF X393 hx hZ0 hown0 (host := "") (Or.inl (wd106 hw)) Via.refl f395 f396 (Or.inr ⟨(wd107 hw), rfl, hnm⟩) (wd69 hw) (ty := (.object "java/util/List")) (by decide) rfl rfl e393 (hb hby d_prog_23m1_16) (q := 19) rfl ?_
  intro T397 h397 X397 e397 W397
  have N397 := Fr.snoc X397 N393 P6r
  have Fw397 : Fld Z h397 a1 "com/example/quaymark/quaymark/Review" "leftOut" "Ljava/util/List;" (.ref q_390) := f395.same W397
  refine aL X397 hx (hb hby d_prog_23m1_19) (q := 20) rfl rfl rfl ?_
  refine aL X397 hx (hb hby d_prog_23m1_20) (q := 21) rfl rfl P7r ?_
  have f398 : Fld Z T390.heap a1 "com/example/quaymark/quaymark/Review" "signedOffBy" "Ljava/lang/String;" .null := P4r.keep K390q nin0
  have f399 : Fld Z h393 a1 "com/example/quaymark/quaymark/Review" "signedOffBy" "Ljava/lang/String;" .null := f398.other W393 (Or.inr (slot_ne (Or.inr (wd109 hw)) (Or.inr (wd105 hw)) (by decide) (t := (.object "java/lang/String")) (t' := (.object "java/lang/String")) (by decide) (by decide)))
  have f400 : Fld Z h397 a1 "com/example/quaymark/quaymark/Review" "signedOffBy" "Ljava/lang/String;" .null := f399.other W397 (Or.inr (slot_ne (Or.inr (wd109 hw)) (Or.inr (wd107 hw)) (by decide) (t := (.object "java/lang/String")) (t' := (.object "java/util/List")) (by decide) (by decide)))
  have f401 : Exa Z h397 a1 "com/example/quaymark/quaymark/Review" := f396.wr W397
  refine g_putF X397 hx hZ0 hown0 (host := "") (Or.inl (wd108 hw)) Via.refl f400 f401 (Or.inr ⟨(wd109 hw), rfl, hnm⟩) (wd69 hw) (ty := (.object "java/lang/String")) (by decide) (own_nref P7r) (own_fref P7r) e397 (hb hby d_prog_23m1_21) (q := 24) rfl ?_
  intro T402 h402 X402 e402 W402
  have N402 := Fr.snoc X402 N397 P6r
  have Fw402 : Fld Z h402 a1 "com/example/quaymark/quaymark/Review" "signedOffBy" "Ljava/lang/String;" vS := f400.same W402
  refine aL X402 hx (hb hby d_prog_23m1_24) (q := 25) rfl rfl rfl ?_
  refine aLw X402 hx (hb hby d_prog_23m1_25) (q := 27) rfl rfl P8r ?_
  have f403 : Fld Z T390.heap a1 "com/example/quaymark/quaymark/Review" "withdrawn" "Lcom/example/quaymark/quaymark/Review$Withdrawal;" .null := P5r.keep K390q nin0
  have f404 : Fld Z h393 a1 "com/example/quaymark/quaymark/Review" "withdrawn" "Lcom/example/quaymark/quaymark/Review$Withdrawal;" .null := f403.other W393 (Or.inr (slot_ne (Or.inr (wd111 hw)) (Or.inr (wd105 hw)) (by decide) (t := (.object "com/example/quaymark/quaymark/Review$Withdrawal")) (t' := (.object "java/lang/String")) (by decide) (by decide)))
  have f405 : Fld Z h397 a1 "com/example/quaymark/quaymark/Review" "withdrawn" "Lcom/example/quaymark/quaymark/Review$Withdrawal;" .null := f404.other W397 (Or.inr (slot_ne (Or.inr (wd111 hw)) (Or.inr (wd107 hw)) (by decide) (t := (.object "com/example/quaymark/quaymark/Review$Withdrawal")) (t' := (.object "java/util/List")) (by decide) (by decide)))
  have f406 : Fld Z h402 a1 "com/example/quaymark/quaymark/Review" "withdrawn" "Lcom/example/quaymark/quaymark/Review$Withdrawal;" .null := f405.other W402 (Or.inr (slot_ne (Or.inr (wd111 hw)) (Or.inr (wd109 hw)) (by decide) (t := (.object "com/example/quaymark/quaymark/Review$Withdrawal")) (t' := (.object "java/lang/String")) (by decide) (by decide)))
  have f407 : Exa Z h402 a1 "com/example/quaymark/quaymark/Review" := f401.wr W402
  refine g_putF X402 hx hZ0 hown0 (host := "") (Or.inl (wd110 hw)) Via.refl f406 f407 (Or.inr ⟨(wd111 hw), rfl, hnm⟩) (wd69 hw) (ty := (.object "com/example/quaymark/quaymark/Review$Withdrawal")) (by decide) (own_nref P8r) (own_fref P8r) e402 (hb hby d_prog_23m1_27) (q := 30) rfl ?_
  intro T408 h408 X408 e408 W408
  have N408 := Fr.snoc X408 N402 P6r
  have Fw408 : Fld Z h408 a1 "com/example/quaymark/quaymark/Review" "withdrawn" "Lcom/example/quaymark/quaymark/Review$Withdrawal;" vB := f406.same W408
  have K409 : Keep h0 T390.heap [a1] := (Keep.refl h0 [a1]).trans K390q all0
  have K410 : Keep h0 h393 [a1] := K409.wr W393 (Or.inl (by simp))
  have K411 : Keep h0 h397 [a1] := K410.wr W397 (Or.inl (by simp))
  have K412 : Keep h0 h402 [a1] := K411.wr W402 (Or.inl (by simp))
  have K413 : Keep h0 h408 [a1] := K412.wr W408 (Or.inl (by simp))
  have f414 : Exa Z h408 a1 "com/example/quaymark/quaymark/Review" := f407.wr W408
  have f415 : Fld Z h397 a1 "com/example/quaymark/quaymark/Review" "submittedBy" "Ljava/lang/String;" (.ref a2) := Fw393.other W397 (Or.inr (slot_ne (Or.inr (wd105 hw)) (Or.inr (wd107 hw)) (by decide) (t := (.object "java/lang/String")) (t' := (.object "java/util/List")) (by decide) (by decide)))
  have f416 : Fld Z h402 a1 "com/example/quaymark/quaymark/Review" "submittedBy" "Ljava/lang/String;" (.ref a2) := f415.other W402 (Or.inr (slot_ne (Or.inr (wd105 hw)) (Or.inr (wd109 hw)) (by decide) (t := (.object "java/lang/String")) (t' := (.object "java/lang/String")) (by decide) (by decide)))
  have f417 : Fld Z h408 a1 "com/example/quaymark/quaymark/Review" "submittedBy" "Ljava/lang/String;" (.ref a2) := f416.other W408 (Or.inr (slot_ne (Or.inr (wd105 hw)) (Or.inr (wd111 hw)) (by decide) (t := (.object "java/lang/String")) (t' := (.object "com/example/quaymark/quaymark/Review$Withdrawal")) (by decide) (by decide)))
  have f418 : Fld Z h402 a1 "com/example/quaymark/quaymark/Review" "leftOut" "Ljava/util/List;" (.ref q_390) := Fw397.other W402 (Or.inr (slot_ne (Or.inr (wd107 hw)) (Or.inr (wd109 hw)) (by decide) (t := (.object "java/util/List")) (t' := (.object "java/lang/String")) (by decide) (by decide)))
  have f419 : Fld Z h408 a1 "com/example/quaymark/quaymark/Review" "leftOut" "Ljava/util/List;" (.ref q_390) := f418.other W408 (Or.inr (slot_ne (Or.inr (wd107 hw)) (Or.inr (wd111 hw)) (by decide) (t := (.object "java/util/List")) (t' := (.object "com/example/quaymark/quaymark/Review$Withdrawal")) (by decide) (by decide)))
  have f420 : Fld Z h408 a1 "com/example/quaymark/quaymark/Review" "signedOffBy" "Ljava/lang/String;" vS := Fw402.other W408 (Or.inr (slot_ne (Or.inr (wd109 hw)) (Or.inr (wd111 hw)) (by decide) (t := (.object "java/lang/String")) (t' := (.object "com/example/quaymark/quaymark/Review$Withdrawal")) (by decide) (by decide)))
  have gh421 : h0.size ≤ q_390 := Nat.le_trans (Nat.le_refl _) q390_0
  have f422 : Exa Z h393 q_390 "java/util/ImmutableCollections$List12" := q390_1.wr W393
  have f423 : Exa Z h397 q_390 "java/util/ImmutableCollections$List12" := f422.wr W397
  have f424 : Exa Z h402 q_390 "java/util/ImmutableCollections$List12" := f423.wr W402
  have f425 : Exa Z h408 q_390 "java/util/ImmutableCollections$List12" := f424.wr W408
  have ne426 : q_390 ≠ a1 := (Nat.ne_of_gt (Nat.lt_of_lt_of_le (Nat.lt_of_lt_of_le P1r.lt (Nat.le_refl _)) q390_0))
  have f427 : Fld Z h393 q_390 "java/util/ImmutableCollections$List12" "e0" "Ljava/lang/Object;" (.ref x0) := q390_2.other W393 (Or.inl ne426)
  have f428 : Fld Z h397 q_390 "java/util/ImmutableCollections$List12" "e0" "Ljava/lang/Object;" (.ref x0) := f427.other W397 (Or.inl ne426)
  have f429 : Fld Z h402 q_390 "java/util/ImmutableCollections$List12" "e0" "Ljava/lang/Object;" (.ref x0) := f428.other W402 (Or.inl ne426)
  have f430 : Fld Z h408 q_390 "java/util/ImmutableCollections$List12" "e0" "Ljava/lang/Object;" (.ref x0) := f429.other W408 (Or.inl ne426)
  have f431 : Fld Z h393 q_390 "java/util/ImmutableCollections$List12" "e1" "Ljava/lang/Object;" (.ref aM) := q390_3.other W393 (Or.inl ne426)
  have f432 : Fld Z h397 q_390 "java/util/ImmutableCollections$List12" "e1" "Ljava/lang/Object;" (.ref aM) := f431.other W397 (Or.inl ne426)
  have f433 : Fld Z h402 q_390 "java/util/ImmutableCollections$List12" "e1" "Ljava/lang/Object;" (.ref aM) := f432.other W402 (Or.inl ne426)
  have f434 : Fld Z h408 q_390 "java/util/ImmutableCollections$List12" "e1" "Ljava/lang/Object;" (.ref aM) := f433.other W408 (Or.inl ne426)
  refine endP X408 hlk (fun _ => rfl) (lastV X408 hx hret (hb hby d_prog_23m1_30)) ?_ (by decide) (by decide)
  rw [e408]
  exact ⟨q_390, rfl, N408, K413, f414, f417, f419, f420, Fw408, gh421, f425, f430, f434⟩
def Q_rv2 (Z : State) (zC : Int32) (aE : Addr) (aD : Addr) (aM : Addr) (mO : Addr) (a1 : Addr) (a2 : Addr) (vS : Value) (vB : Value) (a3 : Addr) (r : Addr) (kr : ClassId) (x0 : Addr) (x1 : Addr) (h0 : Heap) (v : Option Value) (h : Heap) (L : List Loc) : Prop := ∃ (q : Addr), v = none ∧ Fr Z.heap.size L ∧ Keep h0 h [a1] ∧ Exa Z h a1 "com/example/quaymark/quaymark/Review" ∧ Fld Z h a1 "com/example/quaymark/quaymark/Review" "submittedBy" "Ljava/lang/String;" (.ref a2) ∧ Fld Z h a1 "com/example/quaymark/quaymark/Review" "leftOut" "Ljava/util/List;" (.ref q) ∧ Fld Z h a1 "com/example/quaymark/quaymark/Review" "signedOffBy" "Ljava/lang/String;" vS ∧ Fld Z h a1 "com/example/quaymark/quaymark/Review" "withdrawn" "Lcom/example/quaymark/quaymark/Review$Withdrawal;" vB ∧ h0.size ≤ q ∧ Exa Z h q "java/util/ImmutableCollections$List12" ∧ Fld Z h q "java/util/ImmutableCollections$List12" "e0" "Ljava/lang/Object;" (.ref x0) ∧ Fld Z h q "java/util/ImmutableCollections$List12" "e1" "Ljava/lang/Object;" (.ref x1)
theorem rm_rv2 (l : Launch) (Z : State) (a0 : Array Value) (hw : HW a0 Z) (zC : Int32) (SC : tSC Z zC) (PC : ¬ zC = (0 : Int32)) (aE : Addr) (SE : tSE Z aE) (aD : Addr) (SD : tSD Z aD) (aM : Addr) (SM : tSM Z aM) (mO : Addr) (MO : tMO Z mO) (a1 : Addr) (a2 : Addr) (vS : Value) (vB : Value) (a3 : Addr) (r : Addr) (kr : ClassId) (x0 : Addr) (x1 : Addr) (h0 : Heap) (O0 : Old Z Z.heap.size h0) (P1r : Exa Z h0 a1 "com/example/quaymark/quaymark/Review") (P2r : Fld Z h0 a1 "com/example/quaymark/quaymark/Review" "submittedBy" "Ljava/lang/String;" .null) (P3r : Fld Z h0 a1 "com/example/quaymark/quaymark/Review" "leftOut" "Ljava/util/List;" .null) (P4r : Fld Z h0 a1 "com/example/quaymark/quaymark/Review" "signedOffBy" "Ljava/lang/String;" .null) (P5r : Fld Z h0 a1 "com/example/quaymark/quaymark/Review" "withdrawn" "Lcom/example/quaymark/quaymark/Review$Withdrawal;" .null) (P6r : Z.heap.size ≤ a1) (P7r : vS.isRef = true) (P8r : vB.isRef = true) (P3 : Exa Z h0 a3 "java/util/ArrayList") (P4 : Fld Z h0 a3 "java/util/ArrayList" "size" "I" (.int (2 : Int32))) (P5 : Fld Z h0 a3 "java/util/ArrayList" "elementData" "[Ljava/lang/Object;" (.ref r)) (P1 : Arv Z h0 r kr (.object "java/lang/Object") (10 : Int32) [(.ref x0), (.ref x1), .null, .null, .null, .null, .null, .null, .null, .null] .null) (P2 : Exa Z h0 r "[Ljava/lang/Object;") (PX0 : Exa Z h0 x0 "com/example/quaymark/quaymark/Review$LeftOut") (PX1 : Exa Z h0 x1 "com/example/quaymark/quaymark/Review$LeftOut") :
    Con l Z (⟨"com/example/quaymark/quaymark/Review", "<init>", "(Ljava/lang/String;Ljava/util/List;Ljava/lang/String;Lcom/example/quaymark/quaymark/Review$Withdrawal;)V"⟩ : MethodName) prog_23_method_1_code 5 none ({ frames := 8, cells := 2, slots := 4, locals := 101 } : Room) #[(.ref a1), (.ref a2), (.ref a3), vS, vB] h0 (Q_rv2 Z zC aE aD aM mO a1 a2 vS vB a3 r kr x0 x1 h0) := by
  refine Con.intro (plainFor_of_name pn16) ?_
  intro p e s m below meth c T0 X0 hx hby hml hown0 hnm hret hlk hZ0 e0
  have N0 := Fr.nil Z.heap.size
  refine castGo (g' := mkF m 0 #[.val (.ref a1), .val (.ref a2), .val (.ref a3), .val vS, .val vB] []) (by rcases ref_cases P7r with q0 | ⟨_, q0⟩ <;> rw [q0] <;> rcases ref_cases P8r with q1 | ⟨_, q1⟩ <;> rw [q1] <;> rfl) ?_
  show Go _ _ _ _ (T0.setTop (mkF m 0 #[.val (.ref a1), .val (.ref a2), .val (.ref a3), .val vS, .val vB] []))
  refine aL X0 hx (hb hby d_prog_23m1_0) (q := 1) rfl rfl rfl ?_
  refine g_sp X0 hx hZ0 hown0 (wd74 hw) (wd33 hw) (wd36 hw) rfl (by decide) e0 (Con.back (W := 0) (rm_recinit l Z a0 hw zC SC PC aE SE aD SD aM SM mO MO a1 h0 O0 ) hZ0 (wd36 hw) (wd35 hw) (by decide) (by decide)) (by rw [hml]; rfl) (lenOf pd1 rfl) rfl (Nat.le_of_eq rfl) (hb hby d_prog_23m1_1) (q := 4) rfl (by decide) (by decide) ?_
  intro v435 T435 L435 X435 Q435
  obtain ⟨rfl, Nq435, e435⟩ := Q435
  have N435 := Fr.app N0 Nq435
  show Go _ _ _ _ (T435.setTop (mkF m 4 #[.val (.ref a1), .val (.ref a2), .val (.ref a3), .val vS, .val vB] []))
  refine aL X435 hx (hb hby d_prog_23m1_4) (q := 5) rfl rfl rfl ?_
  refine g_st X435 hx hZ0 hown0 (wd75 hw) (wd76 hw) (wd77 hw) (wd78 hw) (by decide) e435 (Con.back (W := 0) (rm_co2 l Z a0 hw zC SC PC aE SE aD SD aM SM mO MO a3 r kr x0 x1 h0 O0 P3 P4 P5 P1 P2 PX0 PX1) hZ0 (wd78 hw) (wd77 hw) (by decide) (by decide)) (by rw [hml]; rfl) (lenOf pd12 rfl) rfl (Nat.le_of_eq rfl) (hb hby d_prog_23m1_5) (q := 8) rfl (by decide) (by decide) ?_
  intro v436 T436 L436 X436 Q436
  obtain ⟨q_436, rfl, Nq436, K436q, q436_0, q436_1, q436_2, q436_3⟩ := Q436
  have N436 := Fr.app N435 Nq436
  show Go _ _ _ _ (T436.setTop (mkF m 8 #[.val (.ref a1), .val (.ref a2), .val (.ref a3), .val vS, .val vB] [(.ref q_436)]))
  refine sA X436 hx (hb hby d_prog_23m1_8) (q := 9) rfl rfl (Ls' := #[.val (.ref a1), .val (.ref a2), .val (.ref q_436), .val vS, .val vB]) rfl ?_
  refine aL X436 hx (hb hby d_prog_23m1_9) (q := 10) rfl rfl rfl ?_
  refine aL X436 hx (hb hby d_prog_23m1_10) (q := 11) rfl rfl rfl ?_
  have f437 : Fld Z T436.heap a1 "com/example/quaymark/quaymark/Review" "submittedBy" "Ljava/lang/String;" .null := P2r.keep K436q nin0
  have f438 : Exa Z T436.heap a1 "com/example/quaymark/quaymark/Review" := P1r.keep K436q
  refine g_putF X436 hx hZ0 hown0 (host := "") (Or.inl (wd104 hw)) Via.refl f437 f438 (Or.inr ⟨(wd105 hw), rfl, hnm⟩) (wd69 hw) (ty := (.object "java/lang/String")) (by decide) rfl rfl rfl (hb hby d_prog_23m1_11) (q := 14) rfl ?_
  intro T439 h439 X439 e439 W439
  have N439 := Fr.snoc X439 N436 P6r
  have Fw439 : Fld Z h439 a1 "com/example/quaymark/quaymark/Review" "submittedBy" "Ljava/lang/String;" (.ref a2) := f437.same W439
  refine aL X439 hx (hb hby d_prog_23m1_14) (q := 15) rfl rfl rfl ?_
  refine aL X439 hx (hb hby d_prog_23m1_15) (q := 16) rfl rfl rfl ?_
  have f440 : Fld Z T436.heap a1 "com/example/quaymark/quaymark/Review" "leftOut" "Ljava/util/List;" .null := P3r.keep K436q nin0
  have f441 : Fld Z h439 a1 "com/example/quaymark/quaymark/Review" "leftOut" "Ljava/util/List;" .null := f440.other W439 (Or.inr (slot_ne (Or.inr (wd107 hw)) (Or.inr (wd105 hw)) (by decide) (t := (.object "java/util/List")) (t' := (.object "java/lang/String")) (by decide) (by decide)))
  have f442 : Exa Z h439 a1 "com/example/quaymark/quaymark/Review" := f438.wr W439
  refine g_putF X439 hx hZ0 hown0 (host := "") (Or.inl (wd106 hw)) Via.refl f441 f442 (Or.inr ⟨(wd107 hw), rfl, hnm⟩) (wd69 hw) (ty := (.object "java/util/List")) (by decide) rfl rfl e439 (hb hby d_prog_23m1_16) (q := 19) rfl ?_
  intro T443 h443 X443 e443 W443
  have N443 := Fr.snoc X443 N439 P6r
  have Fw443 : Fld Z h443 a1 "com/example/quaymark/quaymark/Review" "leftOut" "Ljava/util/List;" (.ref q_436) := f441.same W443
  refine aL X443 hx (hb hby d_prog_23m1_19) (q := 20) rfl rfl rfl ?_
  refine aL X443 hx (hb hby d_prog_23m1_20) (q := 21) rfl rfl P7r ?_
  have f444 : Fld Z T436.heap a1 "com/example/quaymark/quaymark/Review" "signedOffBy" "Ljava/lang/String;" .null := P4r.keep K436q nin0
  have f445 : Fld Z h439 a1 "com/example/quaymark/quaymark/Review" "signedOffBy" "Ljava/lang/String;" .null := f444.other W439 (Or.inr (slot_ne (Or.inr (wd109 hw)) (Or.inr (wd105 hw)) (by decide) (t := (.object "java/lang/String")) (t' := (.object "java/lang/String")) (by decide) (by decide)))
  have f446 : Fld Z h443 a1 "com/example/quaymark/quaymark/Review" "signedOffBy" "Ljava/lang/String;" .null := f445.other W443 (Or.inr (slot_ne (Or.inr (wd109 hw)) (Or.inr (wd107 hw)) (by decide) (t := (.object "java/lang/String")) (t' := (.object "java/util/List")) (by decide) (by decide)))
  have f447 : Exa Z h443 a1 "com/example/quaymark/quaymark/Review" := f442.wr W443
  refine g_putF X443 hx hZ0 hown0 (host := "") (Or.inl (wd108 hw)) Via.refl f446 f447 (Or.inr ⟨(wd109 hw), rfl, hnm⟩) (wd69 hw) (ty := (.object "java/lang/String")) (by decide) (own_nref P7r) (own_fref P7r) e443 (hb hby d_prog_23m1_21) (q := 24) rfl ?_
  intro T448 h448 X448 e448 W448
  have N448 := Fr.snoc X448 N443 P6r
  have Fw448 : Fld Z h448 a1 "com/example/quaymark/quaymark/Review" "signedOffBy" "Ljava/lang/String;" vS := f446.same W448
  refine aL X448 hx (hb hby d_prog_23m1_24) (q := 25) rfl rfl rfl ?_
  refine aLw X448 hx (hb hby d_prog_23m1_25) (q := 27) rfl rfl P8r ?_
  have f449 : Fld Z T436.heap a1 "com/example/quaymark/quaymark/Review" "withdrawn" "Lcom/example/quaymark/quaymark/Review$Withdrawal;" .null := P5r.keep K436q nin0
  have f450 : Fld Z h439 a1 "com/example/quaymark/quaymark/Review" "withdrawn" "Lcom/example/quaymark/quaymark/Review$Withdrawal;" .null := f449.other W439 (Or.inr (slot_ne (Or.inr (wd111 hw)) (Or.inr (wd105 hw)) (by decide) (t := (.object "com/example/quaymark/quaymark/Review$Withdrawal")) (t' := (.object "java/lang/String")) (by decide) (by decide)))
  have f451 : Fld Z h443 a1 "com/example/quaymark/quaymark/Review" "withdrawn" "Lcom/example/quaymark/quaymark/Review$Withdrawal;" .null := f450.other W443 (Or.inr (slot_ne (Or.inr (wd111 hw)) (Or.inr (wd107 hw)) (by decide) (t := (.object "com/example/quaymark/quaymark/Review$Withdrawal")) (t' := (.object "java/util/List")) (by decide) (by decide)))
  have f452 : Fld Z h448 a1 "com/example/quaymark/quaymark/Review" "withdrawn" "Lcom/example/quaymark/quaymark/Review$Withdrawal;" .null := f451.other W448 (Or.inr (slot_ne (Or.inr (wd111 hw)) (Or.inr (wd109 hw)) (by decide) (t := (.object "com/example/quaymark/quaymark/Review$Withdrawal")) (t' := (.object "java/lang/String")) (by decide) (by decide)))
  have f453 : Exa Z h448 a1 "com/example/quaymark/quaymark/Review" := f447.wr W448
  refine g_putF X448 hx hZ0 hown0 (host := "") (Or.inl (wd110 hw)) Via.refl f452 f453 (Or.inr ⟨(wd111 hw), rfl, hnm⟩) (wd69 hw) (ty := (.object "com/example/quaymark/quaymark/Review$Withdrawal")) (by decide) (own_nref P8r) (own_fref P8r) e448 (hb hby d_prog_23m1_27) (q := 30) rfl ?_
  intro T454 h454 X454 e454 W454
  have N454 := Fr.snoc X454 N448 P6r
  have Fw454 : Fld Z h454 a1 "com/example/quaymark/quaymark/Review" "withdrawn" "Lcom/example/quaymark/quaymark/Review$Withdrawal;" vB := f452.same W454
  have K455 : Keep h0 T436.heap [a1] := (Keep.refl h0 [a1]).trans K436q all0
  have K456 : Keep h0 h439 [a1] := K455.wr W439 (Or.inl (by simp))
  have K457 : Keep h0 h443 [a1] := K456.wr W443 (Or.inl (by simp))
  have K458 : Keep h0 h448 [a1] := K457.wr W448 (Or.inl (by simp))
  have K459 : Keep h0 h454 [a1] := K458.wr W454 (Or.inl (by simp))
  have f460 : Exa Z h454 a1 "com/example/quaymark/quaymark/Review" := f453.wr W454
  have f461 : Fld Z h443 a1 "com/example/quaymark/quaymark/Review" "submittedBy" "Ljava/lang/String;" (.ref a2) := Fw439.other W443 (Or.inr (slot_ne (Or.inr (wd105 hw)) (Or.inr (wd107 hw)) (by decide) (t := (.object "java/lang/String")) (t' := (.object "java/util/List")) (by decide) (by decide)))
  have f462 : Fld Z h448 a1 "com/example/quaymark/quaymark/Review" "submittedBy" "Ljava/lang/String;" (.ref a2) := f461.other W448 (Or.inr (slot_ne (Or.inr (wd105 hw)) (Or.inr (wd109 hw)) (by decide) (t := (.object "java/lang/String")) (t' := (.object "java/lang/String")) (by decide) (by decide)))
  have f463 : Fld Z h454 a1 "com/example/quaymark/quaymark/Review" "submittedBy" "Ljava/lang/String;" (.ref a2) := f462.other W454 (Or.inr (slot_ne (Or.inr (wd105 hw)) (Or.inr (wd111 hw)) (by decide) (t := (.object "java/lang/String")) (t' := (.object "com/example/quaymark/quaymark/Review$Withdrawal")) (by decide) (by decide)))
  have f464 : Fld Z h448 a1 "com/example/quaymark/quaymark/Review" "leftOut" "Ljava/util/List;" (.ref q_436) := Fw443.other W448 (Or.inr (slot_ne (Or.inr (wd107 hw)) (Or.inr (wd109 hw)) (by decide) (t := (.object "java/util/List")) (t' := (.object "java/lang/String")) (by decide) (by decide)))
  have f465 : Fld Z h454 a1 "com/example/quaymark/quaymark/Review" "leftOut" "Ljava/util/List;" (.ref q_436) := f464.other W454 (Or.inr (slot_ne (Or.inr (wd107 hw)) (Or.inr (wd111 hw)) (by decide) (t := (.object "java/util/List")) (t' := (.object "com/example/quaymark/quaymark/Review$Withdrawal")) (by decide) (by decide)))
  have f466 : Fld Z h454 a1 "com/example/quaymark/quaymark/Review" "signedOffBy" "Ljava/lang/String;" vS := Fw448.other W454 (Or.inr (slot_ne (Or.inr (wd109 hw)) (Or.inr (wd111 hw)) (by decide) (t := (.object "java/lang/String")) (t' := (.object "com/example/quaymark/quaymark/Review$Withdrawal")) (by decide) (by decide)))
  have gh467 : h0.size ≤ q_436 := Nat.le_trans (Nat.le_refl _) q436_0
  have f468 : Exa Z h439 q_436 "java/util/ImmutableCollections$List12" := q436_1.wr W439
  have f469 : Exa Z h443 q_436 "java/util/ImmutableCollections$List12" := f468.wr W443
  have f470 : Exa Z h448 q_436 "java/util/ImmutableCollections$List12" := f469.wr W448
  have f471 : Exa Z h454 q_436 "java/util/ImmutableCollections$List12" := f470.wr W454
  have ne472 : q_436 ≠ a1 := (Nat.ne_of_gt (Nat.lt_of_lt_of_le (Nat.lt_of_lt_of_le P1r.lt (Nat.le_refl _)) q436_0))
  have f473 : Fld Z h439 q_436 "java/util/ImmutableCollections$List12" "e0" "Ljava/lang/Object;" (.ref x0) := q436_2.other W439 (Or.inl ne472)
  have f474 : Fld Z h443 q_436 "java/util/ImmutableCollections$List12" "e0" "Ljava/lang/Object;" (.ref x0) := f473.other W443 (Or.inl ne472)
  have f475 : Fld Z h448 q_436 "java/util/ImmutableCollections$List12" "e0" "Ljava/lang/Object;" (.ref x0) := f474.other W448 (Or.inl ne472)
  have f476 : Fld Z h454 q_436 "java/util/ImmutableCollections$List12" "e0" "Ljava/lang/Object;" (.ref x0) := f475.other W454 (Or.inl ne472)
  have f477 : Fld Z h439 q_436 "java/util/ImmutableCollections$List12" "e1" "Ljava/lang/Object;" (.ref x1) := q436_3.other W439 (Or.inl ne472)
  have f478 : Fld Z h443 q_436 "java/util/ImmutableCollections$List12" "e1" "Ljava/lang/Object;" (.ref x1) := f477.other W443 (Or.inl ne472)
  have f479 : Fld Z h448 q_436 "java/util/ImmutableCollections$List12" "e1" "Ljava/lang/Object;" (.ref x1) := f478.other W448 (Or.inl ne472)
  have f480 : Fld Z h454 q_436 "java/util/ImmutableCollections$List12" "e1" "Ljava/lang/Object;" (.ref x1) := f479.other W454 (Or.inl ne472)
  refine endP X454 hlk (fun _ => rfl) (lastV X454 hx hret (hb hby d_prog_23m1_30)) ?_ (by decide) (by decide)
  rw [e454]
  exact ⟨q_436, rfl, N454, K459, f460, f463, f465, f466, Fw454, gh467, f471, f476, f480⟩
theorem d_jdk_45m3_0 : decode jdk_45_method_3_code 0 = .ok (.aload_n 0, 1) := by decide +kernel
theorem d_jdk_45m3_1 : decode jdk_45_method_3_code 1 = .ok (.getfield 7, 3) := by decide +kernel
theorem wd141 {a0 : Array Value} {Z : State} (hw : HW a0 Z) : ((Jvm.Cond.fieldLink "java/util/ImmutableCollections$ListN" (7 : Nat) "java/util/ImmutableCollections$ListN" "elements" "[Ljava/lang/Object;") : Jvm.Cond).before a0 Z = true := hw _ (List.mem_of_getElem? (i := 141) rfl)
theorem d_jdk_45m3_4 : decode jdk_45_method_3_code 4 = .ok (.arraylength, 1) := by decide +kernel
theorem d_jdk_45m3_5 : decode jdk_45_method_3_code 5 = .ok (.ireturn, 1) := by decide +kernel
def Q_lnsize (Z : State) (zC : Int32) (aE : Addr) (aD : Addr) (aM : Addr) (mO : Addr) (eA : Addr) (eK : ClassId) (eL : List Value) (h0 : Heap) (v : Option Value) (h : Heap) (L : List Loc) : Prop := v = some (.int (0 : Int32)) ∧ Fr Z.heap.size L ∧ h = h0
theorem pn17 : plainName "java/util/ImmutableCollections$ListN" = true := by first | (simp [plainName, overriddenIn]; done) | decide +kernel
theorem rm_lnsize (l : Launch) (Z : State) (a0 : Array Value) (hw : HW a0 Z) (zC : Int32) (SC : tSC Z zC) (PC : ¬ zC = (0 : Int32)) (aE : Addr) (SE : tSE Z aE) (aD : Addr) (SD : tSD Z aD) (aM : Addr) (SM : tSM Z aM) (mO : Addr) (MO : tMO Z mO) (eA : Addr) (eK : ClassId) (eL : List Value) (h0 : Heap) (O0 : Old Z Z.heap.size h0) (PE1 : Exa Z h0 aE "java/util/ImmutableCollections$ListN") (PE2 : Fld Z h0 aE "java/util/ImmutableCollections$ListN" "elements" "[Ljava/lang/Object;" (.ref eA)) (PE3 : Arv Z h0 eA eK (.object "java/lang/Object") (0 : Int32) eL .null) (PE4 : Fld Z h0 aE "java/util/ImmutableCollections$ListN" "allowNulls" "Z" (.int (0 : Int32))) :
    Con l Z (⟨"java/util/ImmutableCollections$ListN", "size", "()I"⟩ : MethodName) jdk_45_method_3_code 1 (some .int) ({ frames := 0, cells := 0, slots := 0, locals := 0 } : Room) #[(.ref aE)] h0 (Q_lnsize Z zC aE aD aM mO eA eK eL h0) := by
  refine Con.intro (plainFor_of_name pn17) ?_
  intro p e s m below meth c T0 X0 hx hby hml hown0 hnm hret hlk hZ0 e0
  have N0 := Fr.nil Z.heap.size
  refine castGo (g' := mkF m 0 #[.val (.ref aE)] []) (by first | rfl | (simp [entryFrame, mkF, argsToLocals, Value.category]; done)) ?_
  show Go _ _ _ _ (T0.setTop (mkF m 0 #[.val (.ref aE)] []))
  refine aL X0 hx (hb hby d_jdk_45m3_0) (q := 1) rfl rfl rfl ?_
  refine g_getF X0 hx hZ0 hown0 (host := "") (Or.inl (wd141 hw)) Via.refl PE2 e0 (hb hby d_jdk_45m3_1) (q := 4) rfl ?_
  intro T481 X481 e481
  refine g_len X481 hx hZ0 PE3 e481 (hb hby d_jdk_45m3_4) (q := 5) rfl ?_
  refine endP X481 hlk (fun h => by rw [hret] at h; cases h) (lastI X481 hx hret (hb hby d_jdk_45m3_5)) ?_ (by decide) (by decide)
  rw [e481]
  exact ⟨rfl, N0, rfl⟩
theorem d_jdk_44m3_0 : decode jdk_44_method_3_code 0 = .ok (.aload_n 0, 1) := by decide +kernel
theorem d_jdk_44m3_1 : decode jdk_44_method_3_code 1 = .ok (.getfield 24, 3) := by decide +kernel
theorem d_jdk_44m3_4 : decode jdk_44_method_3_code 4 = .ok (.getstatic 19, 3) := by decide +kernel
theorem d_jdk_44m3_7 : decode jdk_44_method_3_code 7 = .ok (.if_acmp .eq 7, 3) := by decide +kernel
theorem d_jdk_44m3_14 : decode jdk_44_method_3_code 14 = .ok (.iconst 1, 1) := by decide +kernel
theorem d_jdk_44m3_15 : decode jdk_44_method_3_code 15 = .ok (.ireturn, 1) := by decide +kernel
def Q_size1 (Z : State) (zC : Int32) (aE : Addr) (aD : Addr) (aM : Addr) (mO : Addr) (a1 : Addr) (h0 : Heap) (v : Option Value) (h : Heap) (L : List Loc) : Prop := v = some (.int (1 : Int32)) ∧ Fr Z.heap.size L ∧ h = h0
theorem rm_size1 (l : Launch) (Z : State) (a0 : Array Value) (hw : HW a0 Z) (zC : Int32) (SC : tSC Z zC) (PC : ¬ zC = (0 : Int32)) (aE : Addr) (SE : tSE Z aE) (aD : Addr) (SD : tSD Z aD) (aM : Addr) (SM : tSM Z aM) (mO : Addr) (MO : tMO Z mO) (a1 : Addr) (h0 : Heap) (O0 : Old Z Z.heap.size h0) (P1 : Fld Z h0 a1 "java/util/ImmutableCollections$List12" "e1" "Ljava/lang/Object;" (.ref aM)) :
    Con l Z (⟨"java/util/ImmutableCollections$List12", "size", "()I"⟩ : MethodName) jdk_44_method_3_code 1 (some .int) ({ frames := 0, cells := 0, slots := 0, locals := 0 } : Room) #[(.ref a1)] h0 (Q_size1 Z zC aE aD aM mO a1 h0) := by
  refine Con.intro (plainFor_of_name pn13) ?_
  intro p e s m below meth c T0 X0 hx hby hml hown0 hnm hret hlk hZ0 e0
  have N0 := Fr.nil Z.heap.size
  refine castGo (g' := mkF m 0 #[.val (.ref a1)] []) (by first | rfl | (simp [entryFrame, mkF, argsToLocals, Value.category]; done)) ?_
  show Go _ _ _ _ (T0.setTop (mkF m 0 #[.val (.ref a1)] []))
  refine aL X0 hx (hb hby d_jdk_44m3_0) (q := 1) rfl rfl rfl ?_
  refine g_getF X0 hx hZ0 hown0 (host := "") (Or.inl (wd271 hw)) Via.refl P1 e0 (hb hby d_jdk_44m3_1) (q := 4) rfl ?_
  intro T482 X482 e482
  refine g_getS X482 hx hZ0 hown0 (Or.inr (wd270 hw)) Via.refl (SM.ext O0.2) e482 (hb hby d_jdk_44m3_4) (q := 7) rfl ?_
  intro T483 X483 e483
  refine g_acmp X483 hx (hb hby d_jdk_44m3_7) (q := 14) rfl rfl (same := true) (decide_eq_true rfl) (by decide) (by decide) ?_
  refine cI X483 hx (hb hby d_jdk_44m3_14) (q := 15) rfl (z := (1 : Int32)) rfl ?_
  refine endP X483 hlk (fun h => by rw [hret] at h; cases h) (lastI X483 hx hret (hb hby d_jdk_44m3_15)) ?_ (by decide) (by decide)
  rw [e483]
  exact ⟨rfl, N0, rfl⟩
theorem d_jdk_44m3_10 : decode jdk_44_method_3_code 10 = .ok (.iconst 2, 1) := by decide +kernel
theorem d_jdk_44m3_11 : decode jdk_44_method_3_code 11 = .ok (.goto 4, 3) := by decide +kernel
def Q_size2 (Z : State) (zC : Int32) (aE : Addr) (aD : Addr) (aM : Addr) (mO : Addr) (a1 : Addr) (x1 : Addr) (h0 : Heap) (v : Option Value) (h : Heap) (L : List Loc) : Prop := v = some (.int (2 : Int32)) ∧ Fr Z.heap.size L ∧ h = h0
theorem rm_size2 (l : Launch) (Z : State) (a0 : Array Value) (hw : HW a0 Z) (zC : Int32) (SC : tSC Z zC) (PC : ¬ zC = (0 : Int32)) (aE : Addr) (SE : tSE Z aE) (aD : Addr) (SD : tSD Z aD) (aM : Addr) (SM : tSM Z aM) (mO : Addr) (MO : tMO Z mO) (a1 : Addr) (x1 : Addr) (h0 : Heap) (O0 : Old Z Z.heap.size h0) (P1 : Fld Z h0 a1 "java/util/ImmutableCollections$List12" "e1" "Ljava/lang/Object;" (.ref x1)) (P2 : Exa Z h0 x1 "com/example/quaymark/quaymark/Review$LeftOut") (PM1 : Exa Z h0 aM "java/lang/Object") :
    Con l Z (⟨"java/util/ImmutableCollections$List12", "size", "()I"⟩ : MethodName) jdk_44_method_3_code 1 (some .int) ({ frames := 0, cells := 0, slots := 0, locals := 0 } : Room) #[(.ref a1)] h0 (Q_size2 Z zC aE aD aM mO a1 x1 h0) := by
  refine Con.intro (plainFor_of_name pn13) ?_
  intro p e s m below meth c T0 X0 hx hby hml hown0 hnm hret hlk hZ0 e0
  have N0 := Fr.nil Z.heap.size
  refine castGo (g' := mkF m 0 #[.val (.ref a1)] []) (by first | rfl | (simp [entryFrame, mkF, argsToLocals, Value.category]; done)) ?_
  show Go _ _ _ _ (T0.setTop (mkF m 0 #[.val (.ref a1)] []))
  refine aL X0 hx (hb hby d_jdk_44m3_0) (q := 1) rfl rfl rfl ?_
  refine g_getF X0 hx hZ0 hown0 (host := "") (Or.inl (wd271 hw)) Via.refl P1 e0 (hb hby d_jdk_44m3_1) (q := 4) rfl ?_
  intro T484 X484 e484
  refine g_getS X484 hx hZ0 hown0 (Or.inr (wd270 hw)) Via.refl (SM.ext O0.2) e484 (hb hby d_jdk_44m3_4) (q := 7) rfl ?_
  intro T485 X485 e485
  have ne486 : x1 ≠ aM := (ne_exa P2 PM1 (by decide))
  refine g_acmp X485 hx (hb hby d_jdk_44m3_7) (q := 10) rfl rfl (same := false) (decide_eq_false fun q => ne486 (Value.ref.inj q)) (by decide) (by decide) ?_
  refine cI X485 hx (hb hby d_jdk_44m3_10) (q := 11) rfl (z := (2 : Int32)) rfl ?_
  refine g_goto X485 hx (hb hby d_jdk_44m3_11) (q := 15) (by decide) (by decide) ?_
  refine endP X485 hlk (fun h => by rw [hret] at h; cases h) (lastI X485 hx hret (hb hby d_jdk_44m3_15)) ?_ (by decide) (by decide)
  rw [e485]
  exact ⟨rfl, N0, rfl⟩
theorem d_jdk_44m5_0 : decode jdk_44_method_5_code 0 = .ok (.iload_n 1, 1) := by decide +kernel
theorem d_jdk_44m5_1 : decode jdk_44_method_5_code 1 = .ok (.ifCond .ne 8, 3) := by decide +kernel
theorem d_jdk_44m5_4 : decode jdk_44_method_5_code 4 = .ok (.aload_n 0, 1) := by decide +kernel
theorem d_jdk_44m5_5 : decode jdk_44_method_5_code 5 = .ok (.getfield 13, 3) := by decide +kernel
theorem d_jdk_44m5_8 : decode jdk_44_method_5_code 8 = .ok (.areturn, 1) := by decide +kernel
def Q_get0 (Z : State) (zC : Int32) (aE : Addr) (aD : Addr) (aM : Addr) (mO : Addr) (a1 : Addr) (x0 : Addr) (h0 : Heap) (v : Option Value) (h : Heap) (L : List Loc) : Prop := v = some (.ref x0) ∧ Fr Z.heap.size L ∧ h = h0
theorem rm_get0 (l : Launch) (Z : State) (a0 : Array Value) (hw : HW a0 Z) (zC : Int32) (SC : tSC Z zC) (PC : ¬ zC = (0 : Int32)) (aE : Addr) (SE : tSE Z aE) (aD : Addr) (SD : tSD Z aD) (aM : Addr) (SM : tSM Z aM) (mO : Addr) (MO : tMO Z mO) (a1 : Addr) (x0 : Addr) (h0 : Heap) (O0 : Old Z Z.heap.size h0) (P1 : Fld Z h0 a1 "java/util/ImmutableCollections$List12" "e0" "Ljava/lang/Object;" (.ref x0)) :
    Con l Z (⟨"java/util/ImmutableCollections$List12", "get", "(I)Ljava/lang/Object;"⟩ : MethodName) jdk_44_method_5_code 2 (some (.object "java/lang/Object")) ({ frames := 0, cells := 0, slots := 0, locals := 0 } : Room) #[(.ref a1), (.int (0 : Int32))] h0 (Q_get0 Z zC aE aD aM mO a1 x0 h0) := by
  refine Con.intro (plainFor_of_name pn13) ?_
  intro p e s m below meth c T0 X0 hx hby hml hown0 hnm hret hlk hZ0 e0
  have N0 := Fr.nil Z.heap.size
  refine castGo (g' := mkF m 0 #[.val (.ref a1), .val (.int (0 : Int32))] []) (by first | rfl | (simp [entryFrame, mkF, argsToLocals, Value.category]; done)) ?_
  show Go _ _ _ _ (T0.setTop (mkF m 0 #[.val (.ref a1), .val (.int (0 : Int32))] []))
  refine iL X0 hx (hb hby d_jdk_44m5_0) (q := 1) rfl rfl ?_
  refine ifN X0 hx (hb hby d_jdk_44m5_1) (q := 4) rfl (by decide) ?_
  refine aL X0 hx (hb hby d_jdk_44m5_4) (q := 5) rfl rfl rfl ?_
  refine g_getF X0 hx hZ0 hown0 (host := "") (Or.inl (wd268 hw)) Via.refl P1 e0 (hb hby d_jdk_44m5_5) (q := 8) rfl ?_
  intro T487 X487 e487
  refine endP X487 hlk (fun h => by rw [hret] at h; cases h) (lastA X487 hx hret rfl rfl rfl (hb hby d_jdk_44m5_8)) ?_ (by decide) (by decide)
  rw [e487]
  exact ⟨rfl, N0, rfl⟩
theorem d_jdk_44m5_9 : decode jdk_44_method_5_code 9 = .ok (.iload_n 1, 1) := by decide +kernel
theorem d_jdk_44m5_10 : decode jdk_44_method_5_code 10 = .ok (.iconst 1, 1) := by decide +kernel
theorem d_jdk_44m5_11 : decode jdk_44_method_5_code 11 = .ok (.if_icmp .ne 18, 3) := by decide +kernel
theorem d_jdk_44m5_14 : decode jdk_44_method_5_code 14 = .ok (.aload_n 0, 1) := by decide +kernel
theorem d_jdk_44m5_15 : decode jdk_44_method_5_code 15 = .ok (.getfield 24, 3) := by decide +kernel
theorem d_jdk_44m5_18 : decode jdk_44_method_5_code 18 = .ok (.getstatic 19, 3) := by decide +kernel
theorem d_jdk_44m5_21 : decode jdk_44_method_5_code 21 = .ok (.if_acmp .eq 8, 3) := by decide +kernel
theorem d_jdk_44m5_24 : decode jdk_44_method_5_code 24 = .ok (.aload_n 0, 1) := by decide +kernel
theorem d_jdk_44m5_25 : decode jdk_44_method_5_code 25 = .ok (.getfield 24, 3) := by decide +kernel
theorem d_jdk_44m5_28 : decode jdk_44_method_5_code 28 = .ok (.areturn, 1) := by decide +kernel
def Q_get1 (Z : State) (zC : Int32) (aE : Addr) (aD : Addr) (aM : Addr) (mO : Addr) (a1 : Addr) (x1 : Addr) (h0 : Heap) (v : Option Value) (h : Heap) (L : List Loc) : Prop := v = some (.ref x1) ∧ Fr Z.heap.size L ∧ h = h0
theorem rm_get1 (l : Launch) (Z : State) (a0 : Array Value) (hw : HW a0 Z) (zC : Int32) (SC : tSC Z zC) (PC : ¬ zC = (0 : Int32)) (aE : Addr) (SE : tSE Z aE) (aD : Addr) (SD : tSD Z aD) (aM : Addr) (SM : tSM Z aM) (mO : Addr) (MO : tMO Z mO) (a1 : Addr) (x1 : Addr) (h0 : Heap) (O0 : Old Z Z.heap.size h0) (P1 : Fld Z h0 a1 "java/util/ImmutableCollections$List12" "e1" "Ljava/lang/Object;" (.ref x1)) (P2 : Exa Z h0 x1 "com/example/quaymark/quaymark/Review$LeftOut") (PM1 : Exa Z h0 aM "java/lang/Object") :
    Con l Z (⟨"java/util/ImmutableCollections$List12", "get", "(I)Ljava/lang/Object;"⟩ : MethodName) jdk_44_method_5_code 2 (some (.object "java/lang/Object")) ({ frames := 0, cells := 0, slots := 0, locals := 0 } : Room) #[(.ref a1), (.int (1 : Int32))] h0 (Q_get1 Z zC aE aD aM mO a1 x1 h0) := by
  refine Con.intro (plainFor_of_name pn13) ?_
  intro p e s m below meth c T0 X0 hx hby hml hown0 hnm hret hlk hZ0 e0
  have N0 := Fr.nil Z.heap.size
  refine castGo (g' := mkF m 0 #[.val (.ref a1), .val (.int (1 : Int32))] []) (by first | rfl | (simp [entryFrame, mkF, argsToLocals, Value.category]; done)) ?_
  show Go _ _ _ _ (T0.setTop (mkF m 0 #[.val (.ref a1), .val (.int (1 : Int32))] []))
  refine iL X0 hx (hb hby d_jdk_44m5_0) (q := 1) rfl rfl ?_
  refine ifY X0 hx (hb hby d_jdk_44m5_1) (q := 9) (by decide) (by decide) (by decide) ?_
  refine iL X0 hx (hb hby d_jdk_44m5_9) (q := 10) rfl rfl ?_
  refine cI X0 hx (hb hby d_jdk_44m5_10) (q := 11) rfl (z := (1 : Int32)) rfl ?_
  refine icN X0 hx (hb hby d_jdk_44m5_11) (q := 14) rfl (by decide) ?_
  refine aL X0 hx (hb hby d_jdk_44m5_14) (q := 15) rfl rfl rfl ?_
  refine g_getF X0 hx hZ0 hown0 (host := "") (Or.inl (wd271 hw)) Via.refl P1 e0 (hb hby d_jdk_44m5_15) (q := 18) rfl ?_
  intro T488 X488 e488
  refine g_getS X488 hx hZ0 hown0 (Or.inr (wd270 hw)) Via.refl (SM.ext O0.2) e488 (hb hby d_jdk_44m5_18) (q := 21) rfl ?_
  intro T489 X489 e489
  have ne490 : x1 ≠ aM := (ne_exa P2 PM1 (by decide))
  refine g_acmp X489 hx (hb hby d_jdk_44m5_21) (q := 24) rfl rfl (same := false) (decide_eq_false fun q => ne490 (Value.ref.inj q)) (by decide) (by decide) ?_
  refine aL X489 hx (hb hby d_jdk_44m5_24) (q := 25) rfl rfl rfl ?_
  refine g_getF X489 hx hZ0 hown0 (host := "") (Or.inl (wd271 hw)) Via.refl P1 e489 (hb hby d_jdk_44m5_25) (q := 28) rfl ?_
  intro T491 X491 e491
  refine endP X491 hlk (fun h => by rw [hret] at h; cases h) (lastA X491 hx hret rfl rfl rfl (hb hby d_jdk_44m5_28)) ?_ (by decide) (by decide)
  rw [e491]
  exact ⟨rfl, N0, rfl⟩
theorem d_jdk_43m3_0 : decode jdk_43_method_3_code 0 = .ok (.iload_n 0, 1) := by decide +kernel
theorem d_jdk_43m3_1 : decode jdk_43_method_3_code 1 = .ok (.sipush 255, 3) := by decide +kernel
theorem d_jdk_43m3_4 : decode jdk_43_method_3_code 4 = .ok (.if_icmp .gt 7, 3) := by decide +kernel
theorem d_jdk_43m3_7 : decode jdk_43_method_3_code 7 = .ok (.iconst 1, 1) := by decide +kernel
theorem d_jdk_43m3_8 : decode jdk_43_method_3_code 8 = .ok (.goto 4, 3) := by decide +kernel
theorem d_jdk_43m3_12 : decode jdk_43_method_3_code 12 = .ok (.ireturn, 1) := by decide +kernel
def Q_cec (Z : State) (zC : Int32) (aE : Addr) (aD : Addr) (aM : Addr) (mO : Addr) (x : Int32) (h0 : Heap) (v : Option Value) (h : Heap) (L : List Loc) : Prop := v = some (.int (1 : Int32)) ∧ Fr Z.heap.size L ∧ h = h0
theorem pn18 : plainName "java/lang/StringLatin1" = true := by first | (simp [plainName, overriddenIn]; done) | decide +kernel
theorem rm_cec (l : Launch) (Z : State) (a0 : Array Value) (hw : HW a0 Z) (zC : Int32) (SC : tSC Z zC) (PC : ¬ zC = (0 : Int32)) (aE : Addr) (SE : tSE Z aE) (aD : Addr) (SD : tSD Z aD) (aM : Addr) (SM : tSM Z aM) (mO : Addr) (MO : tMO Z mO) (x : Int32) (h0 : Heap) (O0 : Old Z Z.heap.size h0)  :
    Con l Z (⟨"java/lang/StringLatin1", "canEncode", "(C)Z"⟩ : MethodName) jdk_43_method_3_code 1 (some .boolean) ({ frames := 0, cells := 0, slots := 0, locals := 0 } : Room) #[(.int (chr x))] h0 (Q_cec Z zC aE aD aM mO x h0) := by
  refine Con.intro (plainFor_of_name pn18) ?_
  intro p e s m below meth c T0 X0 hx hby hml hown0 hnm hret hlk hZ0 e0
  have N0 := Fr.nil Z.heap.size
  refine castGo (g' := mkF m 0 #[.val (.int (chr x))] []) (by first | rfl | (simp [entryFrame, mkF, argsToLocals, Value.category]; done)) ?_
  show Go _ _ _ _ (T0.setTop (mkF m 0 #[.val (.int (chr x))] []))
  refine iL X0 hx (hb hby d_jdk_43m3_0) (q := 1) rfl rfl ?_
  refine pI X0 hx (hb hby d_jdk_43m3_1) (q := 4) rfl (z := (255 : Int32)) rfl ?_
  refine icN X0 hx (hb hby d_jdk_43m3_4) (q := 7) rfl (flt (chr_rng x).2).2.2.1 ?_
  refine cI X0 hx (hb hby d_jdk_43m3_7) (q := 8) rfl (z := (1 : Int32)) rfl ?_
  refine g_goto X0 hx (hb hby d_jdk_43m3_8) (q := 12) (by decide) (by decide) ?_
  refine endP X0 hlk (fun h => by rw [hret] at h; cases h) (lastN X0 hx (t := .boolean) (z' := (1 : Int32)) hret (by simp) (by decide) (hb hby d_jdk_43m3_12)) ?_ (by decide) (by decide)
  rw [e0]
  exact ⟨rfl, N0, rfl⟩
theorem d_jdk_43m46_0 : decode jdk_43_method_46_code 0 = .ok (.iconst 1, 1) := by decide +kernel
theorem d_jdk_43m46_1 : decode jdk_43_method_46_code 1 = .ok (.newarray .byte, 2) := by decide +kernel
theorem wd19 {a0 : Array Value} {Z : State} (hw : HW a0 Z) : ((Jvm.Cond.arrayClass Jvm.ClassFile.FieldType.byte) : Jvm.Cond).before a0 Z = true := hw _ (List.mem_of_getElem? (i := 19) rfl)
theorem d_jdk_43m46_3 : decode jdk_43_method_46_code 3 = .ok (.dup, 1) := by decide +kernel
theorem d_jdk_43m46_4 : decode jdk_43_method_46_code 4 = .ok (.iconst 0, 1) := by decide +kernel
theorem d_jdk_43m46_5 : decode jdk_43_method_46_code 5 = .ok (.iload_n 0, 1) := by decide +kernel
theorem d_jdk_43m46_6 : decode jdk_43_method_46_code 6 = .ok (.i2b, 1) := by decide +kernel
theorem d_jdk_43m46_7 : decode jdk_43_method_46_code 7 = .ok (.bastore, 1) := by decide +kernel
theorem d_jdk_43m46_8 : decode jdk_43_method_46_code 8 = .ok (.areturn, 1) := by decide +kernel
def Q_tob (Z : State) (zC : Int32) (aE : Addr) (aD : Addr) (aM : Addr) (mO : Addr) (x : Int32) (h0 : Heap) (v : Option Value) (h : Heap) (L : List Loc) : Prop := ∃ (a : Addr), ∃ (kb : ClassId), v = some (.ref a) ∧ Fr Z.heap.size L ∧ Keep h0 h [] ∧ h0.size ≤ a ∧ Arv Z h a kb .byte (1 : Int32) [.int (StrChars.lo8 (chr x))] (.int 0)
theorem rm_tob (l : Launch) (Z : State) (a0 : Array Value) (hw : HW a0 Z) (zC : Int32) (SC : tSC Z zC) (PC : ¬ zC = (0 : Int32)) (aE : Addr) (SE : tSE Z aE) (aD : Addr) (SD : tSD Z aD) (aM : Addr) (SM : tSM Z aM) (mO : Addr) (MO : tMO Z mO) (x : Int32) (h0 : Heap) (O0 : Old Z Z.heap.size h0)  :
    Con l Z (⟨"java/lang/StringLatin1", "toBytes", "(C)[B"⟩ : MethodName) jdk_43_method_46_code 1 (some (.array .byte)) ({ frames := 0, cells := 1, slots := 1, locals := 0 } : Room) #[(.int (chr x))] h0 (Q_tob Z zC aE aD aM mO x h0) := by
  refine Con.intro (plainFor_of_name pn18) ?_
  intro p e s m below meth c T0 X0 hx hby hml hown0 hnm hret hlk hZ0 e0
  have N0 := Fr.nil Z.heap.size
  refine castGo (g' := mkF m 0 #[.val (.int (chr x))] []) (by first | rfl | (simp [entryFrame, mkF, argsToLocals, Value.category]; done)) ?_
  show Go _ _ _ _ (T0.setTop (mkF m 0 #[.val (.int (chr x))] []))
  refine cI X0 hx (hb hby d_jdk_43m46_0) (q := 1) rfl (z := (1 : Int32)) rfl ?_
  refine g_newA X0 hx hZ0 (aty := .byte) (wd19 hw) (by decide) (n := 1) (by decide) (by decide) (by decide) (by decide) e0 (hb hby d_jdk_43m46_1) (q := 3) rfl ?_
  intro T492 h492 k492 b492 g492 X492 e492 E492 V492
  have Va492 : Arv Z h492 b492 k492 .byte (1 : Int32) [(.int (0 : Int32))] (.int 0) := V492
  refine g_dup X492 hx (hb hby d_jdk_43m46_3) (q := 4) rfl rfl ?_
  refine cI X492 hx (hb hby d_jdk_43m46_4) (q := 5) rfl (z := (0 : Int32)) rfl ?_
  refine iL X492 hx (hb hby d_jdk_43m46_5) (q := 6) rfl rfl ?_
  refine g_i2b X492 hx (hb hby d_jdk_43m46_6) (q := 7) rfl (z := (StrChars.lo8 (chr x))) rfl ?_
  have gz494 : Z.heap.size ≤ b492 := Nat.le_trans O0.2.1 (Nat.le_of_eq g492.symm)
  refine g_stB X492 hx hZ0 Va492 (i := 0) (by decide) (by decide) (by decide) (Nat.le_of_ble_eq_true rfl) (y := (StrChars.lo8 (chr x))) (lo8_nar _) e492 (hb hby d_jdk_43m46_7) (q := 8) rfl ?_
  intro T493 h493 X493 e493 W493 V493
  have N493 := Fr.snoc X493 N0 gz494
  have Va493 : Arv Z h493 b492 k492 .byte (1 : Int32) [(.int (StrChars.lo8 (chr x)))] (.int 0) := V493
  have K495 : Keep h0 h492 [] := (Keep.refl h0 []).ext E492
  have gh496 : h0.size ≤ b492 := Nat.le_trans (Nat.le_refl _) (Nat.le_of_eq g492.symm)
  have K497 : Keep h0 h493 [] := K495.wr W493 (Or.inr gh496)
  refine endP X493 hlk (fun h => by rw [hret] at h; cases h) (lastA X493 hx hret rfl rfl rfl (hb hby d_jdk_43m46_8)) ?_ (by decide) (by decide)
  rw [e493]
  exact ⟨b492, k492, rfl, N493, K497, gh496, Va493⟩
theorem d_jdk_42m151_0 : decode jdk_42_method_151_code 0 = .ok (.aload_n 0, 1) := by decide +kernel
theorem d_jdk_42m151_1 : decode jdk_42_method_151_code 1 = .ok (.invokespecial 1, 3) := by decide +kernel
theorem d_jdk_42m151_4 : decode jdk_42_method_151_code 4 = .ok (.aload_n 0, 1) := by decide +kernel
theorem d_jdk_42m151_5 : decode jdk_42_method_151_code 5 = .ok (.aload_n 1, 1) := by decide +kernel
theorem d_jdk_42m151_6 : decode jdk_42_method_151_code 6 = .ok (.putfield 9, 3) := by decide +kernel
theorem d_jdk_42m151_9 : decode jdk_42_method_151_code 9 = .ok (.aload_n 0, 1) := by decide +kernel
theorem d_jdk_42m151_10 : decode jdk_42_method_151_code 10 = .ok (.iload_n 2, 1) := by decide +kernel
theorem d_jdk_42m151_11 : decode jdk_42_method_151_code 11 = .ok (.putfield 15, 3) := by decide +kernel
theorem d_jdk_42m151_14 : decode jdk_42_method_151_code 14 = .ok (.return_, 1) := by decide +kernel
def Q_newbb (Z : State) (zC : Int32) (aE : Addr) (aD : Addr) (aM : Addr) (mO : Addr) (a1 : Addr) (a2 : Addr) (h0 : Heap) (v : Option Value) (h : Heap) (L : List Loc) : Prop := v = none ∧ Fr Z.heap.size L ∧ Keep h0 h [a1] ∧ Exa Z h a1 "java/lang/String"
theorem rm_newbb (l : Launch) (Z : State) (a0 : Array Value) (hw : HW a0 Z) (zC : Int32) (SC : tSC Z zC) (PC : ¬ zC = (0 : Int32)) (aE : Addr) (SE : tSE Z aE) (aD : Addr) (SD : tSD Z aD) (aM : Addr) (SM : tSM Z aM) (mO : Addr) (MO : tMO Z mO) (a1 : Addr) (a2 : Addr) (h0 : Heap) (O0 : Old Z Z.heap.size h0) (P1 : Exa Z h0 a1 "java/lang/String") (P2 : Fld Z h0 a1 "java/lang/String" "value" "[B" .null) (P3 : Fld Z h0 a1 "java/lang/String" "coder" "B" (.int (0 : Int32))) (P4 : Z.heap.size ≤ a1) :
    Con l Z (⟨"java/lang/String", "<init>", "([BB)V"⟩ : MethodName) jdk_42_method_151_code 3 none ({ frames := 1, cells := 0, slots := 0, locals := 12 } : Room) #[(.ref a1), (.ref a2), (.int (0 : Int32))] h0 (Q_newbb Z zC aE aD aM mO a1 a2 h0) := by
  refine Con.intro (plainFor_of_name pn0) ?_
  intro p e s m below meth c T0 X0 hx hby hml hown0 hnm hret hlk hZ0 e0
  have N0 := Fr.nil Z.heap.size
  refine castGo (g' := mkF m 0 #[.val (.ref a1), .val (.ref a2), .val (.int (0 : Int32))] []) (by first | rfl | (simp [entryFrame, mkF, argsToLocals, Value.category]; done)) ?_
  show Go _ _ _ _ (T0.setTop (mkF m 0 #[.val (.ref a1), .val (.ref a2), .val (.int (0 : Int32))] []))
  refine aL X0 hx (hb hby d_jdk_42m151_0) (q := 1) rfl rfl rfl ?_
  refine g_init0 X0 hx hZ0 hown0 (wd15 hw) (wd16 hw) (wd17 hw) (by rw [hml]; rfl) (by decide) (W := 0) (Nat.le_of_eq rfl) (by decide) e0 (hb hby d_jdk_42m151_1) (q := 4) rfl ?_
  intro T498 X498 e498
  refine aL X498 hx (hb hby d_jdk_42m151_4) (q := 5) rfl rfl rfl ?_
  refine aL X498 hx (hb hby d_jdk_42m151_5) (q := 6) rfl rfl rfl ?_
  refine g_putF X498 hx hZ0 hown0 (host := "") (Or.inl (wd24 hw)) Via.refl P2 P1 (Or.inr ⟨(wd20 hw), rfl, hnm⟩) (wd5 hw) (ty := (.array .byte)) (by decide) rfl rfl e498 (hb hby d_jdk_42m151_6) (q := 9) rfl ?_
  intro T499 h499 X499 e499 W499
  have N499 := Fr.snoc X499 N0 P4
  have Fw499 : Fld Z h499 a1 "java/lang/String" "value" "[B" (.ref a2) := P2.same W499
  refine aL X499 hx (hb hby d_jdk_42m151_9) (q := 10) rfl rfl rfl ?_
  refine iL X499 hx (hb hby d_jdk_42m151_10) (q := 11) rfl rfl ?_
  have f500 : Fld Z h499 a1 "java/lang/String" "coder" "B" (.int (0 : Int32)) := P3.other W499 (Or.inr (slot_ne (Or.inr (wd21 hw)) (Or.inr (wd20 hw)) (by decide) (t := .byte) (t' := (.array .byte)) (by decide) (by decide)))
  have f501 : Exa Z h499 a1 "java/lang/String" := P1.wr W499
  refine g_putF X499 hx hZ0 hown0 (host := "") (Or.inl (wd25 hw)) Via.refl f500 f501 (Or.inr ⟨(wd21 hw), rfl, hnm⟩) (wd5 hw) (ty := .byte) (by decide) rfl rfl e499 (hb hby d_jdk_42m151_11) (q := 14) rfl ?_
  intro T502 h502 X502 e502 W502
  have N502 := Fr.snoc X502 N499 P4
  have Fw502 : Fld Z h502 a1 "java/lang/String" "coder" "B" (.int (0 : Int32)) := f500.same W502
  have K503 : Keep h0 h499 [a1] := (Keep.refl h0 [a1]).wr W499 (Or.inl (by simp))
  have K504 : Keep h0 h502 [a1] := K503.wr W502 (Or.inl (by simp))
  have f505 : Exa Z h502 a1 "java/lang/String" := f501.wr W502
  refine endP X502 hlk (fun _ => rfl) (lastV X502 hx hret (hb hby d_jdk_42m151_14)) ?_ (by decide) (by decide)
  rw [e502]
  exact ⟨rfl, N502, K504, f505⟩
theorem d_jdk_42m139_0 : decode jdk_42_method_139_code 0 = .ok (.getstatic 38, 3) := by decide +kernel
theorem wd290 {a0 : Array Value} {Z : State} (hw : HW a0 Z) : ((Jvm.Cond.fieldLink "java/lang/String" (38 : Nat) "java/lang/String" "COMPACT_STRINGS" "Z") : Jvm.Cond).before a0 Z = true := hw _ (List.mem_of_getElem? (i := 290) rfl)
theorem d_jdk_42m139_3 : decode jdk_42_method_139_code 3 = .ok (.ifCond .eq 23, 3) := by decide +kernel
theorem d_jdk_42m139_6 : decode jdk_42_method_139_code 6 = .ok (.iload_n 0, 1) := by decide +kernel
theorem d_jdk_42m139_7 : decode jdk_42_method_139_code 7 = .ok (.invokestatic 1015, 3) := by decide +kernel
theorem wd294 {a0 : Array Value} {Z : State} (hw : HW a0 Z) : ((Jvm.Cond.code ({ cls := "java/lang/StringLatin1", name := "canEncode", desc := "(C)Z" } : Jvm.MethodName) jdk_43_method_3_code (1 : Nat) (Option.some Jvm.ClassFile.FieldType.boolean)) : Jvm.Cond).before a0 Z = true := hw _ (List.mem_of_getElem? (i := 294) rfl)
theorem wd293 {a0 : Array Value} {Z : State} (hw : HW a0 Z) : ((Jvm.Cond.initialized "java/lang/StringLatin1") : Jvm.Cond).before a0 Z = true := hw _ (List.mem_of_getElem? (i := 293) rfl)
theorem pd15 : parseMethodDescriptor "(C)Z" = some ⟨[.char], some .boolean⟩ := by decide +kernel
theorem wd291 {a0 : Array Value} {Z : State} (hw : HW a0 Z) : ((Jvm.Cond.methodLink "java/lang/String" (1015 : Nat) ({ cls := "java/lang/StringLatin1", name := "canEncode", desc := "(C)Z" } : Jvm.MethodName)) : Jvm.Cond).before a0 Z = true := hw _ (List.mem_of_getElem? (i := 291) rfl)
theorem wd292 {a0 : Array Value} {Z : State} (hw : HW a0 Z) : ((Jvm.Cond.static ({ cls := "java/lang/StringLatin1", name := "canEncode", desc := "(C)Z" } : Jvm.MethodName)) : Jvm.Cond).before a0 Z = true := hw _ (List.mem_of_getElem? (i := 292) rfl)
theorem d_jdk_42m139_10 : decode jdk_42_method_139_code 10 = .ok (.ifCond .eq 16, 3) := by decide +kernel
theorem d_jdk_42m139_13 : decode jdk_42_method_139_code 13 = .ok (.new 10, 3) := by decide +kernel
theorem wd295 {a0 : Array Value} {Z : State} (hw : HW a0 Z) : ((Jvm.Cond.classLink "java/lang/String" (10 : Nat) "java/lang/String") : Jvm.Cond).before a0 Z = true := hw _ (List.mem_of_getElem? (i := 295) rfl)
theorem d_jdk_42m139_16 : decode jdk_42_method_139_code 16 = .ok (.dup, 1) := by decide +kernel
theorem d_jdk_42m139_17 : decode jdk_42_method_139_code 17 = .ok (.iload_n 0, 1) := by decide +kernel
theorem d_jdk_42m139_18 : decode jdk_42_method_139_code 18 = .ok (.invokestatic 1018, 3) := by decide +kernel
theorem wd298 {a0 : Array Value} {Z : State} (hw : HW a0 Z) : ((Jvm.Cond.code ({ cls := "java/lang/StringLatin1", name := "toBytes", desc := "(C)[B" } : Jvm.MethodName) jdk_43_method_46_code (1 : Nat) (Option.some (Jvm.ClassFile.FieldType.array Jvm.ClassFile.FieldType.byte))) : Jvm.Cond).before a0 Z = true := hw _ (List.mem_of_getElem? (i := 298) rfl)
theorem pd16 : parseMethodDescriptor "(C)[B" = some ⟨[.char], some (.array .byte)⟩ := by decide +kernel
theorem wd296 {a0 : Array Value} {Z : State} (hw : HW a0 Z) : ((Jvm.Cond.methodLink "java/lang/String" (1018 : Nat) ({ cls := "java/lang/StringLatin1", name := "toBytes", desc := "(C)[B" } : Jvm.MethodName)) : Jvm.Cond).before a0 Z = true := hw _ (List.mem_of_getElem? (i := 296) rfl)
theorem wd297 {a0 : Array Value} {Z : State} (hw : HW a0 Z) : ((Jvm.Cond.static ({ cls := "java/lang/StringLatin1", name := "toBytes", desc := "(C)[B" } : Jvm.MethodName)) : Jvm.Cond).before a0 Z = true := hw _ (List.mem_of_getElem? (i := 297) rfl)
theorem d_jdk_42m139_21 : decode jdk_42_method_139_code 21 = .ok (.iconst 0, 1) := by decide +kernel
theorem d_jdk_42m139_22 : decode jdk_42_method_139_code 22 = .ok (.invokespecial 209, 3) := by decide +kernel
theorem wd301 {a0 : Array Value} {Z : State} (hw : HW a0 Z) : ((Jvm.Cond.code ({ cls := "java/lang/String", name := "<init>", desc := "([BB)V" } : Jvm.MethodName) jdk_42_method_151_code (3 : Nat) (Option.none : Option Jvm.ClassFile.FieldType)) : Jvm.Cond).before a0 Z = true := hw _ (List.mem_of_getElem? (i := 301) rfl)
theorem pd17 : parseMethodDescriptor "([BB)V" = some ⟨[(.array .byte), .byte], none⟩ := by decide +kernel
theorem wd299 {a0 : Array Value} {Z : State} (hw : HW a0 Z) : ((Jvm.Cond.methodLink "java/lang/String" (209 : Nat) ({ cls := "java/lang/String", name := "<init>", desc := "([BB)V" } : Jvm.MethodName)) : Jvm.Cond).before a0 Z = true := hw _ (List.mem_of_getElem? (i := 299) rfl)
theorem wd300 {a0 : Array Value} {Z : State} (hw : HW a0 Z) : ((Jvm.Cond.instanceMethod ({ cls := "java/lang/String", name := "<init>", desc := "([BB)V" } : Jvm.MethodName)) : Jvm.Cond).before a0 Z = true := hw _ (List.mem_of_getElem? (i := 300) rfl)
theorem d_jdk_42m139_25 : decode jdk_42_method_139_code 25 = .ok (.areturn, 1) := by decide +kernel
def Q_valc (Z : State) (zC : Int32) (aE : Addr) (aD : Addr) (aM : Addr) (mO : Addr) (x : Int32) (h0 : Heap) (v : Option Value) (h : Heap) (L : List Loc) : Prop := ∃ (r : Addr), v = some (.ref r) ∧ Fr Z.heap.size L ∧ Keep h0 h [] ∧ h0.size ≤ r ∧ Exa Z h r "java/lang/String"
theorem rm_valc (l : Launch) (Z : State) (a0 : Array Value) (hw : HW a0 Z) (zC : Int32) (SC : tSC Z zC) (PC : ¬ zC = (0 : Int32)) (aE : Addr) (SE : tSE Z aE) (aD : Addr) (SD : tSD Z aD) (aM : Addr) (SM : tSM Z aM) (mO : Addr) (MO : tMO Z mO) (x : Int32) (h0 : Heap) (O0 : Old Z Z.heap.size h0)  :
    Con l Z (⟨"java/lang/String", "valueOf", "(C)Ljava/lang/String;"⟩ : MethodName) jdk_42_method_139_code 1 (some (.object "java/lang/String")) ({ frames := 2, cells := 2, slots := 5, locals := 27 } : Room) #[(.int (chr x))] h0 (Q_valc Z zC aE aD aM mO x h0) := by
  refine Con.intro (plainFor_of_name pn0) ?_
  intro p e s m below meth c T0 X0 hx hby hml hown0 hnm hret hlk hZ0 e0
  have N0 := Fr.nil Z.heap.size
  refine castGo (g' := mkF m 0 #[.val (.int (chr x))] []) (by first | rfl | (simp [entryFrame, mkF, argsToLocals, Value.category]; done)) ?_
  show Go _ _ _ _ (T0.setTop (mkF m 0 #[.val (.int (chr x))] []))
  refine g_getS X0 hx hZ0 hown0 (host := "") (Or.inl (wd290 hw)) Via.refl (SC.ext O0.2) e0 (hb hby d_jdk_42m139_0) (q := 3) rfl ?_
  intro T506 X506 e506
  refine ifN X506 hx (hb hby d_jdk_42m139_3) (q := 6) rfl ((if0 _ _).trans (feq PC).1) ?_
  refine iL X506 hx (hb hby d_jdk_42m139_6) (q := 7) rfl rfl ?_
  refine g_st X506 hx hZ0 hown0 (wd291 hw) (wd292 hw) (wd293 hw) (wd294 hw) (by decide) e506 (Con.back (W := 0) (rm_cec l Z a0 hw zC SC PC aE SE aD SD aM SM mO MO x h0 O0 ) hZ0 (wd294 hw) (wd293 hw) (by decide) (by decide)) (by rw [hml]; rfl) (lenOf pd15 rfl) rfl (Nat.le_of_eq rfl) (hb hby d_jdk_42m139_7) (q := 10) rfl (by decide) (by decide) ?_
  intro v507 T507 L507 X507 Q507
  obtain ⟨rfl, Nq507, e507⟩ := Q507
  have N507 := Fr.app N0 Nq507
  show Go _ _ _ _ (T507.setTop (mkF m 10 #[.val (.int (chr x))] [(.int (1 : Int32))]))
  refine ifN X507 hx (hb hby d_jdk_42m139_10) (q := 13) rfl (by decide) ?_
  refine g_new X507 hx hZ0 hown0 (wd295 hw) (wd5 hw) (wd6 hw) (by decide) (by decide) e507 (hb hby d_jdk_42m139_13) (q := 16) rfl ?_
  intro T508 h508 b508 g508 X508 e508 E508 A508 D508
  have F508_20 := D508 (Or.inr (wd20 hw)) (ty := (.array .byte)) (by decide)
  have F508_21 := D508 (Or.inr (wd21 hw)) (ty := .byte) (by decide)
  refine g_dup X508 hx (hb hby d_jdk_42m139_16) (q := 17) rfl rfl ?_
  refine iL X508 hx (hb hby d_jdk_42m139_17) (q := 18) rfl rfl ?_
  have f510 : Old Z Z.heap.size h508 := O0.ext E508
  refine g_st X508 hx hZ0 hown0 (wd296 hw) (wd297 hw) (wd293 hw) (wd298 hw) (by decide) e508 (Con.back (W := 2) (rm_tob l Z a0 hw zC SC PC aE SE aD SD aM SM mO MO x h508 f510 ) hZ0 (wd298 hw) (wd293 hw) (by decide) (by decide)) (by rw [hml]; rfl) (lenOf pd16 rfl) rfl (Nat.le_of_eq rfl) (hb hby d_jdk_42m139_18) (q := 21) rfl (by decide) (by decide) ?_
  intro v509 T509 L509 X509 Q509
  obtain ⟨a_509, kb_509, rfl, Nq509, K509q, q509_0, q509_1⟩ := Q509
  have N509 := Fr.app N507 Nq509
  show Go _ _ _ _ (T509.setTop (mkF m 21 #[.val (.int (chr x))] [(.ref a_509), (.ref b508), (.ref b508)]))
  refine cI X509 hx (hb hby d_jdk_42m139_21) (q := 22) rfl (z := (0 : Int32)) rfl ?_
  have f516 : Exa Z T509.heap b508 "java/lang/String" := A508.keep K509q
  have f517 : Fld Z T509.heap b508 "java/lang/String" "value" "[B" .null := F508_20.keep K509q nin0
  have f518 : Fld Z T509.heap b508 "java/lang/String" "coder" "B" (.int (0 : Int32)) := F508_21.keep K509q nin0
  have gz519 : Z.heap.size ≤ b508 := Nat.le_trans O0.2.1 (Nat.le_of_eq g508.symm)
  have f520 : Old Z Z.heap.size T509.heap := f510.keep K509q all0
  refine g_sp X509 hx hZ0 hown0 (wd299 hw) (wd300 hw) (wd301 hw) rfl (by decide) rfl (Con.back (W := 1) (rm_newbb l Z a0 hw zC SC PC aE SE aD SD aM SM mO MO b508 a_509 T509.heap f520 f516 f517 f518 gz519) hZ0 (wd301 hw) (wd6 hw) (by decide) (by decide)) (by rw [hml]; rfl) (lenOf pd17 rfl) rfl (Nat.le_of_eq rfl) (hb hby d_jdk_42m139_22) (q := 25) rfl (by decide) (by decide) ?_
  intro v515 T515 L515 X515 Q515
  obtain ⟨rfl, Nq515, K515q, q515_0⟩ := Q515
  have N515 := Fr.app N509 Nq515
  show Go _ _ _ _ (T515.setTop (mkF m 25 #[.val (.int (chr x))] [(.ref b508)]))
  have K521 : Keep h0 h508 [] := (Keep.refl h0 []).ext E508
  have K522 : Keep h0 T509.heap [] := K521.trans K509q all0
  have gh523 : h0.size ≤ b508 := Nat.le_trans (Nat.le_refl _) (Nat.le_of_eq g508.symm)
  have K524 : Keep h0 T515.heap [] := K522.trans K515q (allS (Or.inr gh523) all0)
  refine endP X515 hlk (fun h => by rw [hret] at h; cases h) (lastA X515 hx hret rfl rfl rfl (hb hby d_jdk_42m139_25)) ?_ (by decide) (by decide)
  exact ⟨b508, rfl, N515, K524, gh523, q515_0⟩
theorem d_method_2_0 : decode method_2_code 0 = .ok (.iload_n 0, 1) := by decide +kernel
theorem d_method_2_1 : decode method_2_code 1 = .ok (.bipush 16, 2) := by decide +kernel
theorem d_method_2_3 : decode method_2_code 3 = .ok (.iushr, 1) := by decide +kernel
theorem d_method_2_4 : decode method_2_code 4 = .ok (.iconst 3, 1) := by decide +kernel
theorem d_method_2_5 : decode method_2_code 5 = .ok (.irem, 1) := by decide +kernel
theorem d_method_2_6 : decode method_2_code 6 = .ok (.istore_n 1, 1) := by decide +kernel
theorem d_method_2_7 : decode method_2_code 7 = .ok (.iload_n 0, 1) := by decide +kernel
theorem d_method_2_8 : decode method_2_code 8 = .ok (.sipush 255, 3) := by decide +kernel
theorem d_method_2_11 : decode method_2_code 11 = .ok (.iand, 1) := by decide +kernel
theorem d_method_2_12 : decode method_2_code 12 = .ok (.i2c, 1) := by decide +kernel
theorem d_method_2_13 : decode method_2_code 13 = .ok (.istore_n 2, 1) := by decide +kernel
theorem d_method_2_14 : decode method_2_code 14 = .ok (.iload_n 0, 1) := by decide +kernel
theorem d_method_2_15 : decode method_2_code 15 = .ok (.bipush 8, 2) := by decide +kernel
theorem d_method_2_17 : decode method_2_code 17 = .ok (.iushr, 1) := by decide +kernel
theorem d_method_2_18 : decode method_2_code 18 = .ok (.sipush 255, 3) := by decide +kernel
theorem d_method_2_21 : decode method_2_code 21 = .ok (.iand, 1) := by decide +kernel
theorem d_method_2_22 : decode method_2_code 22 = .ok (.i2c, 1) := by decide +kernel
theorem d_method_2_23 : decode method_2_code 23 = .ok (.istore_n 3, 1) := by decide +kernel
theorem d_method_2_24 : decode method_2_code 24 = .ok (.iload_n 1, 1) := by decide +kernel
theorem d_method_2_25 : decode method_2_code 25 = .ok (.ifCond .ne 14, 3) := by decide +kernel
theorem d_method_2_28 : decode method_2_code 28 = .ok (.new 7, 3) := by decide +kernel
theorem wd4 {a0 : Array Value} {Z : State} (hw : HW a0 Z) : ((Jvm.Cond.classLink "com/example/quaymark/quaymark/ReviewSignedOffPinLaw" (7 : Nat) "java/lang/String") : Jvm.Cond).before a0 Z = true := hw _ (List.mem_of_getElem? (i := 4) rfl)
theorem d_method_2_31 : decode method_2_code 31 = .ok (.dup, 1) := by decide +kernel
theorem d_method_2_32 : decode method_2_code 32 = .ok (.iconst 0, 1) := by decide +kernel
theorem d_method_2_33 : decode method_2_code 33 = .ok (.newarray .char, 2) := by decide +kernel
theorem wd7 {a0 : Array Value} {Z : State} (hw : HW a0 Z) : ((Jvm.Cond.arrayClass Jvm.ClassFile.FieldType.char) : Jvm.Cond).before a0 Z = true := hw _ (List.mem_of_getElem? (i := 7) rfl)
theorem d_method_2_35 : decode method_2_code 35 = .ok (.invokespecial 9, 3) := by decide +kernel
theorem wd10 {a0 : Array Value} {Z : State} (hw : HW a0 Z) : ((Jvm.Cond.code ({ cls := "java/lang/String", name := "<init>", desc := "([C)V" } : Jvm.MethodName) jdk_42_method_3_code (2 : Nat) (Option.none : Option Jvm.ClassFile.FieldType)) : Jvm.Cond).before a0 Z = true := hw _ (List.mem_of_getElem? (i := 10) rfl)
theorem pd18 : parseMethodDescriptor "([C)V" = some ⟨[(.array .char)], none⟩ := by decide +kernel
theorem wd8 {a0 : Array Value} {Z : State} (hw : HW a0 Z) : ((Jvm.Cond.methodLink "com/example/quaymark/quaymark/ReviewSignedOffPinLaw" (9 : Nat) ({ cls := "java/lang/String", name := "<init>", desc := "([C)V" } : Jvm.MethodName)) : Jvm.Cond).before a0 Z = true := hw _ (List.mem_of_getElem? (i := 8) rfl)
theorem wd9 {a0 : Array Value} {Z : State} (hw : HW a0 Z) : ((Jvm.Cond.instanceMethod ({ cls := "java/lang/String", name := "<init>", desc := "([C)V" } : Jvm.MethodName)) : Jvm.Cond).before a0 Z = true := hw _ (List.mem_of_getElem? (i := 9) rfl)
theorem d_method_2_38 : decode method_2_code 38 = .ok (.areturn, 1) := by decide +kernel
theorem d_method_2_39 : decode method_2_code 39 = .ok (.iload_n 1, 1) := by decide +kernel
theorem d_method_2_40 : decode method_2_code 40 = .ok (.iconst 1, 1) := by decide +kernel
theorem d_method_2_41 : decode method_2_code 41 = .ok (.if_icmp .ne 8, 3) := by decide +kernel
theorem d_method_2_44 : decode method_2_code 44 = .ok (.iload_n 2, 1) := by decide +kernel
theorem d_method_2_45 : decode method_2_code 45 = .ok (.invokestatic 12, 3) := by decide +kernel
theorem wd289 {a0 : Array Value} {Z : State} (hw : HW a0 Z) : ((Jvm.Cond.code ({ cls := "java/lang/String", name := "valueOf", desc := "(C)Ljava/lang/String;" } : Jvm.MethodName) jdk_42_method_139_code (1 : Nat) (Option.some (Jvm.ClassFile.FieldType.object "java/lang/String"))) : Jvm.Cond).before a0 Z = true := hw _ (List.mem_of_getElem? (i := 289) rfl)
theorem pd19 : parseMethodDescriptor "(C)Ljava/lang/String;" = some ⟨[.char], some (.object "java/lang/String")⟩ := by decide +kernel
theorem wd287 {a0 : Array Value} {Z : State} (hw : HW a0 Z) : ((Jvm.Cond.methodLink "com/example/quaymark/quaymark/ReviewSignedOffPinLaw" (12 : Nat) ({ cls := "java/lang/String", name := "valueOf", desc := "(C)Ljava/lang/String;" } : Jvm.MethodName)) : Jvm.Cond).before a0 Z = true := hw _ (List.mem_of_getElem? (i := 287) rfl)
theorem wd288 {a0 : Array Value} {Z : State} (hw : HW a0 Z) : ((Jvm.Cond.static ({ cls := "java/lang/String", name := "valueOf", desc := "(C)Ljava/lang/String;" } : Jvm.MethodName)) : Jvm.Cond).before a0 Z = true := hw _ (List.mem_of_getElem? (i := 288) rfl)
theorem d_method_2_48 : decode method_2_code 48 = .ok (.areturn, 1) := by decide +kernel
theorem d_method_2_49 : decode method_2_code 49 = .ok (.iconst 2, 1) := by decide +kernel
theorem d_method_2_50 : decode method_2_code 50 = .ok (.newarray .char, 2) := by decide +kernel
theorem d_method_2_52 : decode method_2_code 52 = .ok (.astore 4, 2) := by decide +kernel
theorem d_method_2_54 : decode method_2_code 54 = .ok (.aload 4, 2) := by decide +kernel
theorem d_method_2_56 : decode method_2_code 56 = .ok (.iconst 0, 1) := by decide +kernel
theorem d_method_2_57 : decode method_2_code 57 = .ok (.iload_n 2, 1) := by decide +kernel
theorem d_method_2_58 : decode method_2_code 58 = .ok (.castore, 1) := by decide +kernel
theorem d_method_2_59 : decode method_2_code 59 = .ok (.aload 4, 2) := by decide +kernel
theorem d_method_2_61 : decode method_2_code 61 = .ok (.iconst 1, 1) := by decide +kernel
theorem d_method_2_62 : decode method_2_code 62 = .ok (.iload_n 3, 1) := by decide +kernel
theorem d_method_2_63 : decode method_2_code 63 = .ok (.castore, 1) := by decide +kernel
theorem d_method_2_64 : decode method_2_code 64 = .ok (.new 7, 3) := by decide +kernel
theorem d_method_2_67 : decode method_2_code 67 = .ok (.dup, 1) := by decide +kernel
theorem d_method_2_68 : decode method_2_code 68 = .ok (.aload 4, 2) := by decide +kernel
theorem d_method_2_70 : decode method_2_code 70 = .ok (.invokespecial 9, 3) := by decide +kernel
theorem d_method_2_73 : decode method_2_code 73 = .ok (.areturn, 1) := by decide +kernel
def Q_str (Z : State) (zC : Int32) (aE : Addr) (aD : Addr) (aM : Addr) (mO : Addr) (x : Int32) (h0 : Heap) (v : Option Value) (h : Heap) (L : List Loc) : Prop := ∃ (r : Addr), v = some (.ref r) ∧ Fr Z.heap.size L ∧ Keep h0 h [] ∧ h0.size ≤ r ∧ Exa Z h r "java/lang/String"
theorem pn19 : plainName "com/example/quaymark/quaymark/ReviewSignedOffPinLaw" = true := by first | (simp [plainName, overriddenIn]; done) | decide +kernel
theorem rm_str (l : Launch) (Z : State) (a0 : Array Value) (hw : HW a0 Z) (zC : Int32) (SC : tSC Z zC) (PC : ¬ zC = (0 : Int32)) (aE : Addr) (SE : tSE Z aE) (aD : Addr) (SD : tSD Z aD) (aM : Addr) (SM : tSM Z aM) (mO : Addr) (MO : tMO Z mO) (x : Int32) (h0 : Heap) (O0 : Old Z Z.heap.size h0)  :
    ConS l Z EL (⟨"com/example/quaymark/quaymark/ReviewSignedOffPinLaw", "str", "(I)Ljava/lang/String;"⟩ : MethodName) method_2_code 5 (some (.object "java/lang/String")) ({ frames := 4, cells := 6, slots := 12, locals := 66 } : Room) #[(.int x)] h0 [] (Q_str Z zC aE aD aM mO x h0) := by
  refine ConS.intro (plainFor_of_name pn19) ?_
  intro p e s m below meth c T0 v0 X0 hx hby hml hown0 hnm hret hlk hZ0 e0 hS0 C0 hsl0
  have N0 := Fr.nil Z.heap.size
  refine castGo (g' := mkF m 0 #[.val (.int x), .unset, .unset, .unset, .unset] []) (by first | rfl | (simp [entryFrame, mkF, argsToLocals, Value.category]; done)) ?_
  show Go _ _ _ _ (T0.setTop (mkF m 0 #[.val (.int x), .unset, .unset, .unset, .unset] []))
  refine iL X0 hx (hb hby d_method_2_0) (q := 1) rfl rfl ?_
  refine bI X0 hx (hb hby d_method_2_1) (q := 3) rfl (z := (16 : Int32)) rfl ?_
  refine g_iushr X0 hx (hb hby d_method_2_3) (q := 4) rfl rfl ?_
  refine cI X0 hx (hb hby d_method_2_4) (q := 5) rfl (z := (3 : Int32)) rfl ?_
  refine g_irem X0 hx (hb hby d_method_2_5) (q := 6) rfl (by decide) rfl ?_
  refine sI X0 hx (hb hby d_method_2_6) (q := 7) rfl (Ls' := #[.val (.int x), .val (.int (((x.toUInt32 >>> ((16 : Int32) &&& 31).toUInt32).toInt32) % (3 : Int32))), .unset, .unset, .unset]) rfl ?_
  refine iL X0 hx (hb hby d_method_2_7) (q := 8) rfl rfl ?_
  refine pI X0 hx (hb hby d_method_2_8) (q := 11) rfl (z := (255 : Int32)) rfl ?_
  refine g_iand X0 hx (hb hby d_method_2_11) (q := 12) rfl rfl ?_
  refine g_i2c X0 hx (hb hby d_method_2_12) (q := 13) rfl (z := (chr x)) rfl ?_
  refine sI X0 hx (hb hby d_method_2_13) (q := 14) rfl (Ls' := #[.val (.int x), .val (.int (((x.toUInt32 >>> ((16 : Int32) &&& 31).toUInt32).toInt32) % (3 : Int32))), .val (.int (chr x)), .unset, .unset]) rfl ?_
  refine iL X0 hx (hb hby d_method_2_14) (q := 15) rfl rfl ?_
  refine bI X0 hx (hb hby d_method_2_15) (q := 17) rfl (z := (8 : Int32)) rfl ?_
  refine g_iushr X0 hx (hb hby d_method_2_17) (q := 18) rfl rfl ?_
  refine pI X0 hx (hb hby d_method_2_18) (q := 21) rfl (z := (255 : Int32)) rfl ?_
  refine g_iand X0 hx (hb hby d_method_2_21) (q := 22) rfl rfl ?_
  refine g_i2c X0 hx (hb hby d_method_2_22) (q := 23) rfl (z := (chr ((x.toUInt32 >>> ((8 : Int32) &&& 31).toUInt32).toInt32))) rfl ?_
  refine sI X0 hx (hb hby d_method_2_23) (q := 24) rfl (Ls' := #[.val (.int x), .val (.int (((x.toUInt32 >>> ((16 : Int32) &&& 31).toUInt32).toInt32) % (3 : Int32))), .val (.int (chr x)), .val (.int (chr ((x.toUInt32 >>> ((8 : Int32) &&& 31).toUInt32).toInt32))), .unset]) rfl ?_
  refine iL X0 hx (hb hby d_method_2_24) (q := 25) rfl rfl ?_
  by_cases hc525 : (((x.toUInt32 >>> ((16 : Int32) &&& 31).toUInt32).toInt32) % (3 : Int32)) = (0 : Int32)
  · refine ifN X0 hx (hb hby d_method_2_25) (q := 28) rfl ((if0 _ _).trans (teq hc525).2) ?_
    refine g_new X0 hx hZ0 hown0 (wd4 hw) (wd5 hw) (wd6 hw) (by decide) (by decide) e0 (hb hby d_method_2_28) (q := 31) rfl ?_
    intro T526 h526 b526 g526 X526 e526 E526 A526 D526
    have sf527 : Safe Z EL v0 h0 b526 := Safe.new (Nat.le_of_eq g526.symm)
    have F526_20 := D526 (Or.inr (wd20 hw)) (ty := (.array .byte)) (by decide)
    have F526_21 := D526 (Or.inr (wd21 hw)) (ty := .byte) (by decide)
    refine g_dup X526 hx (hb hby d_method_2_31) (q := 32) rfl rfl ?_
    refine cI X526 hx (hb hby d_method_2_32) (q := 33) rfl (z := (0 : Int32)) rfl ?_
    refine g_newA X526 hx hZ0 (aty := .char) (wd7 hw) (by decide) (n := 0) (by decide) (by decide) (by decide) (by decide) e526 (hb hby d_method_2_33) (q := 35) rfl ?_
    intro T528 h528 k528 b528 g528 X528 e528 E528 V528
    have Va528 : Arv Z h528 b528 k528 .char (0 : Int32) [] (.int 0) := V528
    have f537 : Exa Z h528 b526 "java/lang/String" := A526.ext E528
    have f538 : Fld Z h528 b526 "java/lang/String" "value" "[B" .null := F526_20.ext E528
    have f539 : Fld Z h528 b526 "java/lang/String" "coder" "B" (.int (0 : Int32)) := F526_21.ext E528
    have gz540 : Z.heap.size ≤ b526 := Nat.le_trans O0.2.1 (Nat.le_of_eq g526.symm)
    have f541 : Safe Z EL v0 h526 b526 := Safe.ext E526 C0.1 sf527
    have f542 : CHr Z EL s.vm s.heap v0 h526 := C0.trans (CHr.ext E526 C0.1)
    have f543 : Safe Z EL v0 h528 b526 := Safe.ext E528 f542.1 f541
    have f544 : Old Z Z.heap.size h526 := O0.ext E526
    have f545 : Old Z Z.heap.size h528 := f544.ext E528
    have f546 : CHr Z EL s.vm s.heap v0 h528 := f542.trans (CHr.ext E528 f542.1)
    have le547 : (h526).size ≤ (h528).size := E528.1
    refine g_spS X528 hx hZ0 hown0 hS0 (Nat.zero_le _) (wd8 hw) (wd9 hw) (wd10 hw) rfl (by decide) e528 (ConS.back (W := 1) (rm_new1e l Z a0 hw zC SC PC aE SE aD SD aM SM mO MO b526 b528 k528 [] h528 f545 f537 f538 f539 gz540 Va528) hZ0 (wd10 hw) (wd6 hw) (by decide) (by decide) (own_EW hw) f546.1 (sfS f543 sf0) (allS (Nat.lt_of_lt_of_le A526.lt le547) all0)) (by rw [hml]; rfl) (lenOf pd18 rfl) rfl (Nat.le_of_eq rfl) (hb hby d_method_2_35) (q := 38) rfl (by decide) (by decide) ?_
    rintro v536 T536 L536 ⟨X536, hS536, hZ536, hown536, R536⟩ Q536
    obtain ⟨t_536, kb_536, rfl, Nq536, K536q, q536_0, q536_1, q536_2, q536_3⟩ := Q536
    have N536 := Fr.app N0 Nq536
    show Go _ _ _ _ (T536.setTop (mkF m 38 #[.val (.int x), .val (.int (((x.toUInt32 >>> ((16 : Int32) &&& 31).toUInt32).toInt32) % (3 : Int32))), .val (.int (chr x)), .val (.int (chr ((x.toUInt32 >>> ((8 : Int32) &&& 31).toUInt32).toInt32))), .unset] [(.ref b526)]))
    have K548 : Keep h0 h526 [] := (Keep.refl h0 []).ext E526
    have K549 : Keep h0 h528 [] := K548.ext E528
    have gh550 : h0.size ≤ b526 := Nat.le_trans (Nat.le_refl _) (Nat.le_of_eq g526.symm)
    have K551 : Keep h0 T536.heap [] := K549.trans K536q (allS (Or.inr gh550) all0)
    have f552 : CHr Z EL s.vm s.heap T536.vm T536.heap := f546.trans R536
    refine endC X536 hlk hS536 (Nat.le_trans (Nat.le_refl _) (Nat.le_refl _)) hZ536 (own_EW hw) f552 (fun h => by rw [hret] at h; cases h) (lastA X536 hx hret rfl rfl rfl (hb hby d_method_2_38)) ?_ (by decide) (by decide)
    exact ⟨b526, rfl, N536, K551, gh550, q536_0⟩
  · refine ifY X0 hx (hb hby d_method_2_25) (q := 39) (by decide) (by decide) ((if0 _ _).trans (feq hc525).2) ?_
    refine iL X0 hx (hb hby d_method_2_39) (q := 40) rfl rfl ?_
    refine cI X0 hx (hb hby d_method_2_40) (q := 41) rfl (z := (1 : Int32)) rfl ?_
    by_cases hc553 : (((x.toUInt32 >>> ((16 : Int32) &&& 31).toUInt32).toInt32) % (3 : Int32)) = (1 : Int32)
    · refine icN X0 hx (hb hby d_method_2_41) (q := 44) rfl (teq hc553).2 ?_
      refine iL X0 hx (hb hby d_method_2_44) (q := 45) rfl rfl ?_
      refine g_st X0 hx hZ0 hown0 (wd287 hw) (wd288 hw) (wd6 hw) (wd289 hw) (by decide) e0 (Con.back (W := 0) (rm_valc l Z a0 hw zC SC PC aE SE aD SD aM SM mO MO x h0 O0 ) hZ0 (wd289 hw) (wd6 hw) (by decide) (by decide)) (by rw [hml]; rfl) (lenOf pd19 rfl) rfl (Nat.le_of_eq rfl) (hb hby d_method_2_45) (q := 48) rfl (by decide) (by decide) ?_
      intro v554 T554 L554 X554 Q554
      obtain ⟨r_554, rfl, Nq554, K554q, q554_0, q554_1⟩ := Q554
      have N554 := Fr.app N0 Nq554
      show Go _ _ _ _ (T554.setTop (mkF m 48 #[.val (.int x), .val (.int (((x.toUInt32 >>> ((16 : Int32) &&& 31).toUInt32).toInt32) % (3 : Int32))), .val (.int (chr x)), .val (.int (chr ((x.toUInt32 >>> ((8 : Int32) &&& 31).toUInt32).toInt32))), .unset] [(.ref r_554)]))
      have K555 : Keep h0 T554.heap [] := (Keep.refl h0 []).trans K554q all0
      have gh556 : h0.size ≤ r_554 := Nat.le_trans (Nat.le_refl _) q554_0
      have f557 : CHr Z EL s.vm s.heap v0 T554.heap := C0.trans (CHr.keep K554q sf0 C0.1)
      refine endC X554 hlk hS0 (Nat.zero_le _) hZ0 (own_EW hw) f557 (fun h => by rw [hret] at h; cases h) (lastA X554 hx hret rfl rfl rfl (hb hby d_method_2_48)) ?_ (by decide) (by decide)
      exact ⟨r_554, rfl, N554, K555, gh556, q554_1⟩
    · refine icY X0 hx (hb hby d_method_2_41) (q := 49) (by decide) (by decide) (feq hc553).2 ?_
      refine cI X0 hx (hb hby d_method_2_49) (q := 50) rfl (z := (2 : Int32)) rfl ?_
      refine g_newA X0 hx hZ0 (aty := .char) (wd7 hw) (by decide) (n := 2) (by decide) (by decide) (by decide) (by decide) e0 (hb hby d_method_2_50) (q := 52) rfl ?_
      intro T558 h558 k558 b558 g558 X558 e558 E558 V558
      have Va558 : Arv Z h558 b558 k558 .char (2 : Int32) [(.int (0 : Int32)), (.int (0 : Int32))] (.int 0) := V558
      refine sAw X558 hx (hb hby d_method_2_52) (q := 54) rfl rfl (Ls' := #[.val (.int x), .val (.int (((x.toUInt32 >>> ((16 : Int32) &&& 31).toUInt32).toInt32) % (3 : Int32))), .val (.int (chr x)), .val (.int (chr ((x.toUInt32 >>> ((8 : Int32) &&& 31).toUInt32).toInt32))), .val (.ref b558)]) rfl ?_
      refine aLw X558 hx (hb hby d_method_2_54) (q := 56) rfl rfl rfl ?_
      refine cI X558 hx (hb hby d_method_2_56) (q := 57) rfl (z := (0 : Int32)) rfl ?_
      refine iL X558 hx (hb hby d_method_2_57) (q := 58) rfl rfl ?_
      have gz560 : Z.heap.size ≤ b558 := Nat.le_trans O0.2.1 (Nat.le_of_eq g558.symm)
      have f561 : CHr Z EL s.vm s.heap v0 h558 := C0.trans (CHr.ext E558 C0.1)
      refine g_stC X558 hx hZ0 Va558 (i := 0) (by decide) (by decide) (by decide) (Nat.le_of_ble_eq_true rfl) (y := (chr x)) (chr_nar _) e558 (hb hby d_method_2_58) (q := 59) rfl ?_
      intro T559 h559 X559 e559 W559 V559
      have N559 := Fr.snoc X559 N0 gz560
      have Va559 : Arv Z h559 b558 k558 .char (2 : Int32) [(.int (chr x)), (.int (0 : Int32))] (.int 0) := V559
      refine aLw X559 hx (hb hby d_method_2_59) (q := 61) rfl rfl rfl ?_
      refine cI X559 hx (hb hby d_method_2_61) (q := 62) rfl (z := (1 : Int32)) rfl ?_
      refine iL X559 hx (hb hby d_method_2_62) (q := 63) rfl rfl ?_
      have f563 : CHr Z EL s.vm s.heap v0 h559 := f561.trans (CHr.wr W559 (Safe.arv hZ0.alike Va558 (by decide)) f561.1)
      refine g_stC X559 hx hZ0 Va559 (i := 1) (by decide) (by decide) (by decide) (Nat.le_of_ble_eq_true rfl) (y := (chr ((x.toUInt32 >>> ((8 : Int32) &&& 31).toUInt32).toInt32))) (chr_nar _) e559 (hb hby d_method_2_63) (q := 64) rfl ?_
      intro T562 h562 X562 e562 W562 V562
      have N562 := Fr.snoc X562 N559 gz560
      have Va562 : Arv Z h562 b558 k558 .char (2 : Int32) [(.int (chr x)), (.int (chr ((x.toUInt32 >>> ((8 : Int32) &&& 31).toUInt32).toInt32)))] (.int 0) := V562
      refine g_new X562 hx hZ0 hown0 (wd4 hw) (wd5 hw) (wd6 hw) (by decide) (by decide) e562 (hb hby d_method_2_64) (q := 67) rfl ?_
      intro T564 h564 b564 g564 X564 e564 E564 A564 D564
      have sf565 : Safe Z EL v0 h562 b564 := Safe.new (Nat.le_of_eq g564.symm)
      have F564_20 := D564 (Or.inr (wd20 hw)) (ty := (.array .byte)) (by decide)
      have F564_21 := D564 (Or.inr (wd21 hw)) (ty := .byte) (by decide)
      refine g_dup X564 hx (hb hby d_method_2_67) (q := 68) rfl rfl ?_
      refine aLw X564 hx (hb hby d_method_2_68) (q := 70) rfl rfl rfl ?_
      have f567 : Old Z Z.heap.size h558 := O0.ext E558
      have f568 : Old Z Z.heap.size h559 := f567.wr W559 gz560
      have f569 : Old Z Z.heap.size h562 := f568.wr W562 gz560
      have f570 : Old Z Z.heap.size h564 := f569.ext E564
      have gz571 : Z.heap.size ≤ b564 := Nat.le_trans f569.2.1 (Nat.le_of_eq g564.symm)
      have f572 : Arv Z h564 b558 k558 .char (2 : Int32) [(.int (chr x)), (.int (chr ((x.toUInt32 >>> ((8 : Int32) &&& 31).toUInt32).toInt32)))] (.int 0) := Va562.ext E564
      refine g_sp X564 hx hZ0 hown0 (wd8 hw) (wd9 hw) (wd10 hw) rfl (by decide) e564 (StrChars.Road.backV (W := 1) hZ0 (own_wStr hw) (kI := 4) (wd5 hw) (cs := ([(chr x), (chr ((x.toUInt32 >>> ((8 : Int32) &&& 31).toUInt32).toInt32))] : List Int32)) (bs := (([(chr x), (chr ((x.toUInt32 >>> ((8 : Int32) &&& 31).toUInt32).toInt32))] : List Int32).map (fun c => c.toInt8.toInt32))) (n := 2) gz571 f570.2.1 A564 F564_20 F564_21 f572 (SC.ext f570.2) PC rfl rfl (by decide) (by decide) (alS (chr_rng _) (alS (chr_rng _) al0)) rfl (by decide) (by decide)) (a := b564) (argsL := [.ref b558]) (W := 1) (nk := 1) (ns := 2) (Qc := StrChars.Road.QV Z b564 (2 : Int32) (([(chr x), (chr ((x.toUInt32 >>> ((8 : Int32) &&& 31).toUInt32).toInt32))] : List Int32).map (fun c => c.toInt8.toInt32)) h564 Z.heap.size) (by rw [hml]; rfl) (lenOf pd18 rfl) rfl (Nat.le_of_eq rfl) (hb hby d_method_2_70) (q := 73) rfl (by decide) (by decide) ?_
      intro v566 T566 L566 X566 Q566
      obtain ⟨rfl, Nq566, K566q, E566q, C566q, t566, kb566, tz566, tg566, tn566, Fv566, Va566⟩ := Q566
      have N566 := Fr.app N562 Nq566
      show Go _ _ _ _ (T566.setTop (mkF m 73 #[.val (.int x), .val (.int (((x.toUInt32 >>> ((16 : Int32) &&& 31).toUInt32).toInt32) % (3 : Int32))), .val (.int (chr x)), .val (.int (chr ((x.toUInt32 >>> ((8 : Int32) &&& 31).toUInt32).toInt32))), .val (.ref b558)] [(.ref b564)]))
      have K573 : Keep h0 h558 [] := (Keep.refl h0 []).ext E558
      have gh574 : h0.size ≤ b558 := Nat.le_trans (Nat.le_refl _) (Nat.le_of_eq g558.symm)
      have K575 : Keep h0 h559 [] := K573.wr W559 (Or.inr gh574)
      have K576 : Keep h0 h562 [] := K575.wr W562 (Or.inr gh574)
      have K577 : Keep h0 h564 [] := K576.ext E564
      have le579 : (h0).size ≤ (h558).size := E558.1
      have le580 : (h0).size ≤ (h559).size := (Nat.le_trans le579 (Nat.le_of_eq (Wr.size W559).symm))
      have le581 : (h0).size ≤ (h562).size := (Nat.le_trans le580 (Nat.le_of_eq (Wr.size W562).symm))
      have gh578 : h0.size ≤ b564 := Nat.le_trans le581 (Nat.le_of_eq g564.symm)
      have K582 : Keep h0 T566.heap [] := K577.trans K566q (allS (Or.inr gh578) all0)
      have f583 : CHr Z EL s.vm s.heap v0 h562 := f563.trans (CHr.wr W562 (Safe.arv hZ0.alike Va559 (by decide)) f563.1)
      have f584 : CHr Z EL s.vm s.heap v0 h564 := f583.trans (CHr.ext E564 f583.1)
      have f585 : Safe Z EL v0 h564 b564 := Safe.ext E564 f583.1 sf565
      have f586 : CHr Z EL s.vm s.heap v0 T566.heap := f584.trans (CHr.keep K566q (sfS f585 sf0) f584.1)
      refine endC X566 hlk hS0 (Nat.zero_le _) hZ0 (own_EW hw) f586 (fun h => by rw [hret] at h; cases h) (lastA X566 hx hret rfl rfl rfl (hb hby d_method_2_73)) ?_ (by decide) (by decide)
      exact ⟨b564, rfl, N566, K582, gh578, E566q⟩
theorem d_method_3_0 : decode method_3_code 0 = .ok (.aload_n 0, 1) := by decide +kernel
theorem d_method_3_1 : decode method_3_code 1 = .ok (.ifnonnull 13, 3) := by decide +kernel
theorem d_method_3_4 : decode method_3_code 4 = .ok (.aload_n 1, 1) := by decide +kernel
theorem d_method_3_5 : decode method_3_code 5 = .ok (.ifnonnull 7, 3) := by decide +kernel
theorem d_method_3_8 : decode method_3_code 8 = .ok (.iconst 1, 1) := by decide +kernel
theorem d_method_3_9 : decode method_3_code 9 = .ok (.goto 4, 3) := by decide +kernel
theorem d_method_3_13 : decode method_3_code 13 = .ok (.ireturn, 1) := by decide +kernel
def Q_samen (Z : State) (zC : Int32) (aE : Addr) (aD : Addr) (aM : Addr) (mO : Addr) (h0 : Heap) (v : Option Value) (h : Heap) (L : List Loc) : Prop := v = some (.int (1 : Int32)) ∧ Fr Z.heap.size L ∧ h = h0
theorem rm_samen (l : Launch) (Z : State) (a0 : Array Value) (hw : HW a0 Z) (zC : Int32) (SC : tSC Z zC) (PC : ¬ zC = (0 : Int32)) (aE : Addr) (SE : tSE Z aE) (aD : Addr) (SD : tSD Z aD) (aM : Addr) (SM : tSM Z aM) (mO : Addr) (MO : tMO Z mO)  (h0 : Heap) (O0 : Old Z Z.heap.size h0)  :
    Con l Z (⟨"com/example/quaymark/quaymark/ReviewSignedOffPinLaw", "same", "(Ljava/lang/String;Ljava/lang/String;)Z"⟩ : MethodName) method_3_code 2 (some .boolean) ({ frames := 0, cells := 0, slots := 0, locals := 0 } : Room) #[.null, .null] h0 (Q_samen Z zC aE aD aM mO h0) := by
  refine Con.intro (plainFor_of_name pn19) ?_
  intro p e s m below meth c T0 X0 hx hby hml hown0 hnm hret hlk hZ0 e0
  have N0 := Fr.nil Z.heap.size
  refine castGo (g' := mkF m 0 #[.val .null, .val .null] []) (by first | rfl | (simp [entryFrame, mkF, argsToLocals, Value.category]; done)) ?_
  show Go _ _ _ _ (T0.setTop (mkF m 0 #[.val .null, .val .null] []))
  refine aL X0 hx (hb hby d_method_3_0) (q := 1) rfl rfl rfl ?_
  refine nnN X0 hx (hb hby d_method_3_1) (q := 4) rfl ?_
  refine aL X0 hx (hb hby d_method_3_4) (q := 5) rfl rfl rfl ?_
  refine nnN X0 hx (hb hby d_method_3_5) (q := 8) rfl ?_
  refine cI X0 hx (hb hby d_method_3_8) (q := 9) rfl (z := (1 : Int32)) rfl ?_
  refine g_goto X0 hx (hb hby d_method_3_9) (q := 13) (by decide) (by decide) ?_
  refine endP X0 hlk (fun h => by rw [hret] at h; cases h) (lastN X0 hx (t := .boolean) (z' := (1 : Int32)) hret (by simp) (by decide) (hb hby d_method_3_13)) ?_ (by decide) (by decide)
  rw [e0]
  exact ⟨rfl, N0, rfl⟩
theorem d_jdk_42m66_0 : decode jdk_42_method_66_code 0 = .ok (.aload_n 0, 1) := by decide +kernel
theorem d_jdk_42m66_1 : decode jdk_42_method_66_code 1 = .ok (.aload_n 1, 1) := by decide +kernel
theorem d_jdk_42m66_2 : decode jdk_42_method_66_code 2 = .ok (.if_acmp .ne 5, 3) := by decide +kernel
theorem d_jdk_42m66_5 : decode jdk_42_method_66_code 5 = .ok (.iconst 1, 1) := by decide +kernel
theorem d_jdk_42m66_6 : decode jdk_42_method_66_code 6 = .ok (.ireturn, 1) := by decide +kernel
def Q_eqs (Z : State) (zC : Int32) (aE : Addr) (aD : Addr) (aM : Addr) (mO : Addr) (a1 : Addr) (h0 : Heap) (v : Option Value) (h : Heap) (L : List Loc) : Prop := v = some (.int (1 : Int32)) ∧ Fr Z.heap.size L ∧ h = h0
theorem rm_eqs (l : Launch) (Z : State) (a0 : Array Value) (hw : HW a0 Z) (zC : Int32) (SC : tSC Z zC) (PC : ¬ zC = (0 : Int32)) (aE : Addr) (SE : tSE Z aE) (aD : Addr) (SD : tSD Z aD) (aM : Addr) (SM : tSM Z aM) (mO : Addr) (MO : tMO Z mO) (a1 : Addr) (h0 : Heap) (O0 : Old Z Z.heap.size h0) (P1 : Exa Z h0 a1 "java/lang/String") :
    Con l Z (⟨"java/lang/String", "equals", "(Ljava/lang/Object;)Z"⟩ : MethodName) jdk_42_method_66_code 3 (some .boolean) ({ frames := 0, cells := 0, slots := 0, locals := 0 } : Room) #[(.ref a1), (.ref a1)] h0 (Q_eqs Z zC aE aD aM mO a1 h0) := by
  refine Con.intro (plainFor_of_name pn0) ?_
  intro p e s m below meth c T0 X0 hx hby hml hown0 hnm hret hlk hZ0 e0
  have N0 := Fr.nil Z.heap.size
  refine castGo (g' := mkF m 0 #[.val (.ref a1), .val (.ref a1), .unset] []) (by first | rfl | (simp [entryFrame, mkF, argsToLocals, Value.category]; done)) ?_
  show Go _ _ _ _ (T0.setTop (mkF m 0 #[.val (.ref a1), .val (.ref a1), .unset] []))
  refine aL X0 hx (hb hby d_jdk_42m66_0) (q := 1) rfl rfl rfl ?_
  refine aL X0 hx (hb hby d_jdk_42m66_1) (q := 2) rfl rfl rfl ?_
  refine g_acmp X0 hx (hb hby d_jdk_42m66_2) (q := 5) rfl rfl (same := true) (decide_eq_true rfl) (by decide) (by decide) ?_
  refine cI X0 hx (hb hby d_jdk_42m66_5) (q := 6) rfl (z := (1 : Int32)) rfl ?_
  refine endP X0 hlk (fun h => by rw [hret] at h; cases h) (lastN X0 hx (t := .boolean) (z' := (1 : Int32)) hret (by simp) (by decide) (hb hby d_jdk_42m66_6)) ?_ (by decide) (by decide)
  rw [e0]
  exact ⟨rfl, N0, rfl⟩
theorem d_method_3_14 : decode method_3_code 14 = .ok (.aload_n 0, 1) := by decide +kernel
theorem d_method_3_15 : decode method_3_code 15 = .ok (.aload_n 1, 1) := by decide +kernel
theorem d_method_3_16 : decode method_3_code 16 = .ok (.invokevirtual 16, 3) := by decide +kernel
theorem wd155 {a0 : Array Value} {Z : State} (hw : HW a0 Z) : ((Jvm.Cond.code ({ cls := "java/lang/String", name := "equals", desc := "(Ljava/lang/Object;)Z" } : Jvm.MethodName) jdk_42_method_66_code (3 : Nat) (Option.some Jvm.ClassFile.FieldType.boolean)) : Jvm.Cond).before a0 Z = true := hw _ (List.mem_of_getElem? (i := 155) rfl)
theorem pd20 : parseMethodDescriptor "(Ljava/lang/Object;)Z" = some ⟨[(.object "java/lang/Object")], some .boolean⟩ := by decide +kernel
theorem wd154 {a0 : Array Value} {Z : State} (hw : HW a0 Z) : ((Jvm.Cond.selects "java/lang/String" ({ cls := "java/lang/String", name := "equals", desc := "(Ljava/lang/Object;)Z" } : Jvm.MethodName) ({ cls := "java/lang/String", name := "equals", desc := "(Ljava/lang/Object;)Z" } : Jvm.MethodName)) : Jvm.Cond).before a0 Z = true := hw _ (List.mem_of_getElem? (i := 154) rfl)
theorem wd151 {a0 : Array Value} {Z : State} (hw : HW a0 Z) : ((Jvm.Cond.methodLink "com/example/quaymark/quaymark/ReviewSignedOffPinLaw" (16 : Nat) ({ cls := "java/lang/String", name := "equals", desc := "(Ljava/lang/Object;)Z" } : Jvm.MethodName)) : Jvm.Cond).before a0 Z = true := hw _ (List.mem_of_getElem? (i := 151) rfl)
theorem wd152 {a0 : Array Value} {Z : State} (hw : HW a0 Z) : ((Jvm.Cond.declares ({ cls := "java/lang/String", name := "equals", desc := "(Ljava/lang/Object;)Z" } : Jvm.MethodName)) : Jvm.Cond).before a0 Z = true := hw _ (List.mem_of_getElem? (i := 152) rfl)
theorem wd153 {a0 : Array Value} {Z : State} (hw : HW a0 Z) : ((Jvm.Cond.instanceMethod ({ cls := "java/lang/String", name := "equals", desc := "(Ljava/lang/Object;)Z" } : Jvm.MethodName)) : Jvm.Cond).before a0 Z = true := hw _ (List.mem_of_getElem? (i := 153) rfl)
theorem d_method_3_19 : decode method_3_code 19 = .ok (.ireturn, 1) := by decide +kernel
def Q_samer (Z : State) (zC : Int32) (aE : Addr) (aD : Addr) (aM : Addr) (mO : Addr) (a1 : Addr) (h0 : Heap) (v : Option Value) (h : Heap) (L : List Loc) : Prop := v = some (.int (1 : Int32)) ∧ Fr Z.heap.size L ∧ h = h0
theorem rm_samer (l : Launch) (Z : State) (a0 : Array Value) (hw : HW a0 Z) (zC : Int32) (SC : tSC Z zC) (PC : ¬ zC = (0 : Int32)) (aE : Addr) (SE : tSE Z aE) (aD : Addr) (SD : tSD Z aD) (aM : Addr) (SM : tSM Z aM) (mO : Addr) (MO : tMO Z mO) (a1 : Addr) (h0 : Heap) (O0 : Old Z Z.heap.size h0) (P1 : Exa Z h0 a1 "java/lang/String") :
    Con l Z (⟨"com/example/quaymark/quaymark/ReviewSignedOffPinLaw", "same", "(Ljava/lang/String;Ljava/lang/String;)Z"⟩ : MethodName) method_3_code 2 (some .boolean) ({ frames := 1, cells := 0, slots := 0, locals := 14 } : Room) #[(.ref a1), (.ref a1)] h0 (Q_samer Z zC aE aD aM mO a1 h0) := by
  refine Con.intro (plainFor_of_name pn19) ?_
  intro p e s m below meth c T0 X0 hx hby hml hown0 hnm hret hlk hZ0 e0
  have N0 := Fr.nil Z.heap.size
  refine castGo (g' := mkF m 0 #[.val (.ref a1), .val (.ref a1)] []) (by first | rfl | (simp [entryFrame, mkF, argsToLocals, Value.category]; done)) ?_
  show Go _ _ _ _ (T0.setTop (mkF m 0 #[.val (.ref a1), .val (.ref a1)] []))
  refine aL X0 hx (hb hby d_method_3_0) (q := 1) rfl rfl rfl ?_
  refine nnY X0 hx (hb hby d_method_3_1) (q := 14) (by decide) (by decide) ?_
  refine aL X0 hx (hb hby d_method_3_14) (q := 15) rfl rfl rfl ?_
  refine aL X0 hx (hb hby d_method_3_15) (q := 16) rfl rfl rfl ?_
  refine g_vi X0 hx hZ0 hown0 (wd151 hw) (wd152 hw) (notFace_of_selects (args := #[]) (mvT hZ0 (wd154 hw))) (wd154 hw) (wd153 hw) (by decide) P1 e0 (Con.back (W := 0) (rm_eqs l Z a0 hw zC SC PC aE SE aD SD aM SM mO MO a1 h0 O0 P1) hZ0 (wd155 hw) (wd6 hw) (by decide) (by decide)) (by rw [hml]; rfl) (lenOf pd20 rfl) rfl (Nat.le_of_eq rfl) (hb hby d_method_3_16) (q := 19) rfl (by decide) (by decide) ?_
  intro v587 T587 L587 X587 Q587
  obtain ⟨rfl, Nq587, e587⟩ := Q587
  have N587 := Fr.app N0 Nq587
  show Go _ _ _ _ (T587.setTop (mkF m 19 #[.val (.ref a1), .val (.ref a1)] [(.int (1 : Int32))]))
  refine endP X587 hlk (fun h => by rw [hret] at h; cases h) (lastN X587 hx (t := .boolean) (z' := (1 : Int32)) hret (by simp) (by decide) (hb hby d_method_3_19)) ?_ (by decide) (by decide)
  rw [e587]
  exact ⟨rfl, N587, rfl⟩
theorem d_prog_23m4_0 : decode prog_23_method_4_code 0 = .ok (.new 14, 3) := by decide +kernel
theorem wd117 {a0 : Array Value} {Z : State} (hw : HW a0 Z) : ((Jvm.Cond.classLink "com/example/quaymark/quaymark/Review" (14 : Nat) "com/example/quaymark/quaymark/Review") : Jvm.Cond).before a0 Z = true := hw _ (List.mem_of_getElem? (i := 117) rfl)
theorem wd70 {a0 : Array Value} {Z : State} (hw : HW a0 Z) : ((Jvm.Cond.initialized "com/example/quaymark/quaymark/Review") : Jvm.Cond).before a0 Z = true := hw _ (List.mem_of_getElem? (i := 70) rfl)
theorem d_prog_23m4_3 : decode prog_23_method_4_code 3 = .ok (.dup, 1) := by decide +kernel
theorem d_prog_23m4_4 : decode prog_23_method_4_code 4 = .ok (.aload_n 0, 1) := by decide +kernel
theorem d_prog_23m4_5 : decode prog_23_method_4_code 5 = .ok (.getfield 13, 3) := by decide +kernel
theorem d_prog_23m4_8 : decode prog_23_method_4_code 8 = .ok (.aload_n 0, 1) := by decide +kernel
theorem d_prog_23m4_9 : decode prog_23_method_4_code 9 = .ok (.getfield 19, 3) := by decide +kernel
theorem d_prog_23m4_12 : decode prog_23_method_4_code 12 = .ok (.aload_n 1, 1) := by decide +kernel
theorem d_prog_23m4_13 : decode prog_23_method_4_code 13 = .ok (.aconst_null, 1) := by decide +kernel
theorem d_prog_23m4_14 : decode prog_23_method_4_code 14 = .ok (.invokespecial 34, 3) := by decide +kernel
theorem wd73 {a0 : Array Value} {Z : State} (hw : HW a0 Z) : ((Jvm.Cond.code ({ cls := "com/example/quaymark/quaymark/Review", name := "<init>", desc := "(Ljava/lang/String;Ljava/util/List;Ljava/lang/String;Lcom/example/quaymark/quaymark/Review$Withdrawal;)V" } : Jvm.MethodName) prog_23_method_1_code (5 : Nat) (Option.none : Option Jvm.ClassFile.FieldType)) : Jvm.Cond).before a0 Z = true := hw _ (List.mem_of_getElem? (i := 73) rfl)
theorem pd21 : parseMethodDescriptor "(Ljava/lang/String;Ljava/util/List;Ljava/lang/String;Lcom/example/quaymark/quaymark/Review$Withdrawal;)V" = some ⟨[(.object "java/lang/String"), (.object "java/util/List"), (.object "java/lang/String"), (.object "com/example/quaymark/quaymark/Review$Withdrawal")], none⟩ := by decide +kernel
theorem wd118 {a0 : Array Value} {Z : State} (hw : HW a0 Z) : ((Jvm.Cond.methodLink "com/example/quaymark/quaymark/Review" (34 : Nat) ({ cls := "com/example/quaymark/quaymark/Review", name := "<init>", desc := "(Ljava/lang/String;Ljava/util/List;Ljava/lang/String;Lcom/example/quaymark/quaymark/Review$Withdrawal;)V" } : Jvm.MethodName)) : Jvm.Cond).before a0 Z = true := hw _ (List.mem_of_getElem? (i := 118) rfl)
theorem wd72 {a0 : Array Value} {Z : State} (hw : HW a0 Z) : ((Jvm.Cond.instanceMethod ({ cls := "com/example/quaymark/quaymark/Review", name := "<init>", desc := "(Ljava/lang/String;Ljava/util/List;Ljava/lang/String;Lcom/example/quaymark/quaymark/Review$Withdrawal;)V" } : Jvm.MethodName)) : Jvm.Cond).before a0 Z = true := hw _ (List.mem_of_getElem? (i := 72) rfl)
theorem d_prog_23m4_17 : decode prog_23_method_4_code 17 = .ok (.areturn, 1) := by decide +kernel
def Q_sgnE (Z : State) (zC : Int32) (aE : Addr) (aD : Addr) (aM : Addr) (mO : Addr) (a1 : Addr) (a2 : Addr) (vW : Value) (eA : Addr) (eK : ClassId) (eL : List Value) (h0 : Heap) (v : Option Value) (h : Heap) (L : List Loc) : Prop := ∃ (r : Addr), v = some (.ref r) ∧ Fr Z.heap.size L ∧ Keep h0 h [] ∧ h0.size ≤ r ∧ Exa Z h r "com/example/quaymark/quaymark/Review" ∧ Fld Z h r "com/example/quaymark/quaymark/Review" "submittedBy" "Ljava/lang/String;" (.ref a2) ∧ Fld Z h r "com/example/quaymark/quaymark/Review" "leftOut" "Ljava/util/List;" (.ref aE) ∧ Fld Z h r "com/example/quaymark/quaymark/Review" "signedOffBy" "Ljava/lang/String;" vW ∧ Fld Z h r "com/example/quaymark/quaymark/Review" "withdrawn" "Lcom/example/quaymark/quaymark/Review$Withdrawal;" .null
theorem rm_sgnE (l : Launch) (Z : State) (a0 : Array Value) (hw : HW a0 Z) (zC : Int32) (SC : tSC Z zC) (PC : ¬ zC = (0 : Int32)) (aE : Addr) (SE : tSE Z aE) (aD : Addr) (SD : tSD Z aD) (aM : Addr) (SM : tSM Z aM) (mO : Addr) (MO : tMO Z mO) (a1 : Addr) (a2 : Addr) (vW : Value) (eA : Addr) (eK : ClassId) (eL : List Value) (h0 : Heap) (O0 : Old Z Z.heap.size h0) (P1 : Fld Z h0 a1 "com/example/quaymark/quaymark/Review" "submittedBy" "Ljava/lang/String;" (.ref a2)) (P2 : Fld Z h0 a1 "com/example/quaymark/quaymark/Review" "leftOut" "Ljava/util/List;" (.ref aE)) (PE1 : Exa Z h0 aE "java/util/ImmutableCollections$ListN") (PE2 : Fld Z h0 aE "java/util/ImmutableCollections$ListN" "elements" "[Ljava/lang/Object;" (.ref eA)) (PE3 : Arv Z h0 eA eK (.object "java/lang/Object") (0 : Int32) eL .null) (PE4 : Fld Z h0 aE "java/util/ImmutableCollections$ListN" "allowNulls" "Z" (.int (0 : Int32))) (P3 : vW.isRef = true) :
    Con l Z (⟨"com/example/quaymark/quaymark/Review", "signedOff", "(Ljava/lang/String;)Lcom/example/quaymark/quaymark/Review;"⟩ : MethodName) prog_23_method_4_code 2 (some (.object "com/example/quaymark/quaymark/Review")) ({ frames := 3, cells := 1, slots := 4, locals := 42 } : Room) #[(.ref a1), vW] h0 (Q_sgnE Z zC aE aD aM mO a1 a2 vW eA eK eL h0) := by
  refine Con.intro (plainFor_of_name pn16) ?_
  intro p e s m below meth c T0 X0 hx hby hml hown0 hnm hret hlk hZ0 e0
  have N0 := Fr.nil Z.heap.size
  refine castGo (g' := mkF m 0 #[.val (.ref a1), .val vW] []) (by rcases ref_cases P3 with q0 | ⟨_, q0⟩ <;> rw [q0] <;> rfl) ?_
  show Go _ _ _ _ (T0.setTop (mkF m 0 #[.val (.ref a1), .val vW] []))
  refine g_new X0 hx hZ0 hown0 (wd117 hw) (wd69 hw) (wd70 hw) (by decide) (by decide) e0 (hb hby d_prog_23m4_0) (q := 3) rfl ?_
  intro T588 h588 b588 g588 X588 e588 E588 A588 D588
  have F588_105 := D588 (Or.inr (wd105 hw)) (ty := (.object "java/lang/String")) (by decide)
  have F588_107 := D588 (Or.inr (wd107 hw)) (ty := (.object "java/util/List")) (by decide)
  have F588_109 := D588 (Or.inr (wd109 hw)) (ty := (.object "java/lang/String")) (by decide)
  have F588_111 := D588 (Or.inr (wd111 hw)) (ty := (.object "com/example/quaymark/quaymark/Review$Withdrawal")) (by decide)
  refine g_dup X588 hx (hb hby d_prog_23m4_3) (q := 4) rfl rfl ?_
  refine aL X588 hx (hb hby d_prog_23m4_4) (q := 5) rfl rfl rfl ?_
  have f589 : Fld Z h588 a1 "com/example/quaymark/quaymark/Review" "submittedBy" "Ljava/lang/String;" (.ref a2) := P1.ext E588
  refine g_getF X588 hx hZ0 hown0 (host := "") (Or.inl (wd104 hw)) Via.refl f589 e588 (hb hby d_prog_23m4_5) (q := 8) rfl ?_
  intro T590 X590 e590
  refine aL X590 hx (hb hby d_prog_23m4_8) (q := 9) rfl rfl rfl ?_
  have f591 : Fld Z h588 a1 "com/example/quaymark/quaymark/Review" "leftOut" "Ljava/util/List;" (.ref aE) := P2.ext E588
  refine g_getF X590 hx hZ0 hown0 (host := "") (Or.inl (wd106 hw)) Via.refl f591 e590 (hb hby d_prog_23m4_9) (q := 12) rfl ?_
  intro T592 X592 e592
  refine aL X592 hx (hb hby d_prog_23m4_12) (q := 13) rfl rfl P3 ?_
  refine cN X592 hx (hb hby d_prog_23m4_13) (q := 14) rfl ?_
  have gz599 : Z.heap.size ≤ b588 := Nat.le_trans O0.2.1 (Nat.le_of_eq g588.symm)
  have f600 : Exa Z h588 aE "java/util/ImmutableCollections$ListN" := PE1.ext E588
  have f601 : Fld Z h588 aE "java/util/ImmutableCollections$ListN" "elements" "[Ljava/lang/Object;" (.ref eA) := PE2.ext E588
  have f602 : Arv Z h588 eA eK (.object "java/lang/Object") (0 : Int32) eL .null := PE3.ext E588
  have f603 : Fld Z h588 aE "java/util/ImmutableCollections$ListN" "allowNulls" "Z" (.int (0 : Int32)) := PE4.ext E588
  have f604 : Old Z Z.heap.size h588 := O0.ext E588
  refine g_sp X592 hx hZ0 hown0 (wd118 hw) (wd72 hw) (wd73 hw) rfl (by decide) e592 (Con.back (W := 1) (rm_rvE l Z a0 hw zC SC PC aE SE aD SD aM SM mO MO b588 a2 vW .null eA eK eL h588 f604 A588 F588_105 F588_107 F588_109 F588_111 gz599 P3 rfl f600 f601 f602 f603) hZ0 (wd73 hw) (wd70 hw) (by decide) (by decide)) (by rw [hml]; rfl) (lenOf pd21 rfl) rfl (Nat.le_of_eq rfl) (hb hby d_prog_23m4_14) (q := 17) rfl (by decide) (by decide) ?_
  intro v598 T598 L598 X598 Q598
  obtain ⟨rfl, Nq598, K598q, q598_0, q598_1, q598_2, q598_3, q598_4⟩ := Q598
  have N598 := Fr.app N0 Nq598
  show Go _ _ _ _ (T598.setTop (mkF m 17 #[.val (.ref a1), .val vW] [(.ref b588)]))
  have K605 : Keep h0 h588 [] := (Keep.refl h0 []).ext E588
  have gh606 : h0.size ≤ b588 := Nat.le_trans (Nat.le_refl _) (Nat.le_of_eq g588.symm)
  have K607 : Keep h0 T598.heap [] := K605.trans K598q (allS (Or.inr gh606) all0)
  refine endP X598 hlk (fun h => by rw [hret] at h; cases h) (lastA X598 hx hret rfl rfl rfl (hb hby d_prog_23m4_17)) ?_ (by decide) (by decide)
  exact ⟨b588, rfl, N598, K607, gh606, q598_0, q598_1, q598_2, q598_3, q598_4⟩
def Q_sgnL (Z : State) (zC : Int32) (aE : Addr) (aD : Addr) (aM : Addr) (mO : Addr) (a1 : Addr) (a2 : Addr) (vW : Value) (a3 : Addr) (h0 : Heap) (v : Option Value) (h : Heap) (L : List Loc) : Prop := ∃ (r : Addr), v = some (.ref r) ∧ Fr Z.heap.size L ∧ Keep h0 h [] ∧ h0.size ≤ r ∧ Exa Z h r "com/example/quaymark/quaymark/Review" ∧ Fld Z h r "com/example/quaymark/quaymark/Review" "submittedBy" "Ljava/lang/String;" (.ref a2) ∧ Fld Z h r "com/example/quaymark/quaymark/Review" "leftOut" "Ljava/util/List;" (.ref a3) ∧ Fld Z h r "com/example/quaymark/quaymark/Review" "signedOffBy" "Ljava/lang/String;" vW ∧ Fld Z h r "com/example/quaymark/quaymark/Review" "withdrawn" "Lcom/example/quaymark/quaymark/Review$Withdrawal;" .null
theorem rm_sgnL (l : Launch) (Z : State) (a0 : Array Value) (hw : HW a0 Z) (zC : Int32) (SC : tSC Z zC) (PC : ¬ zC = (0 : Int32)) (aE : Addr) (SE : tSE Z aE) (aD : Addr) (SD : tSD Z aD) (aM : Addr) (SM : tSM Z aM) (mO : Addr) (MO : tMO Z mO) (a1 : Addr) (a2 : Addr) (vW : Value) (a3 : Addr) (h0 : Heap) (O0 : Old Z Z.heap.size h0) (P1 : Fld Z h0 a1 "com/example/quaymark/quaymark/Review" "submittedBy" "Ljava/lang/String;" (.ref a2)) (P2 : Fld Z h0 a1 "com/example/quaymark/quaymark/Review" "leftOut" "Ljava/util/List;" (.ref a3)) (P2b : Exa Z h0 a3 "java/util/ImmutableCollections$List12") (P3 : vW.isRef = true) :
    Con l Z (⟨"com/example/quaymark/quaymark/Review", "signedOff", "(Ljava/lang/String;)Lcom/example/quaymark/quaymark/Review;"⟩ : MethodName) prog_23_method_4_code 2 (some (.object "com/example/quaymark/quaymark/Review")) ({ frames := 3, cells := 1, slots := 4, locals := 42 } : Room) #[(.ref a1), vW] h0 (Q_sgnL Z zC aE aD aM mO a1 a2 vW a3 h0) := by
  refine Con.intro (plainFor_of_name pn16) ?_
  intro p e s m below meth c T0 X0 hx hby hml hown0 hnm hret hlk hZ0 e0
  have N0 := Fr.nil Z.heap.size
  refine castGo (g' := mkF m 0 #[.val (.ref a1), .val vW] []) (by rcases ref_cases P3 with q0 | ⟨_, q0⟩ <;> rw [q0] <;> rfl) ?_
  show Go _ _ _ _ (T0.setTop (mkF m 0 #[.val (.ref a1), .val vW] []))
  refine g_new X0 hx hZ0 hown0 (wd117 hw) (wd69 hw) (wd70 hw) (by decide) (by decide) e0 (hb hby d_prog_23m4_0) (q := 3) rfl ?_
  intro T608 h608 b608 g608 X608 e608 E608 A608 D608
  have F608_105 := D608 (Or.inr (wd105 hw)) (ty := (.object "java/lang/String")) (by decide)
  have F608_107 := D608 (Or.inr (wd107 hw)) (ty := (.object "java/util/List")) (by decide)
  have F608_109 := D608 (Or.inr (wd109 hw)) (ty := (.object "java/lang/String")) (by decide)
  have F608_111 := D608 (Or.inr (wd111 hw)) (ty := (.object "com/example/quaymark/quaymark/Review$Withdrawal")) (by decide)
  refine g_dup X608 hx (hb hby d_prog_23m4_3) (q := 4) rfl rfl ?_
  refine aL X608 hx (hb hby d_prog_23m4_4) (q := 5) rfl rfl rfl ?_
  have f609 : Fld Z h608 a1 "com/example/quaymark/quaymark/Review" "submittedBy" "Ljava/lang/String;" (.ref a2) := P1.ext E608
  refine g_getF X608 hx hZ0 hown0 (host := "") (Or.inl (wd104 hw)) Via.refl f609 e608 (hb hby d_prog_23m4_5) (q := 8) rfl ?_
  intro T610 X610 e610
  refine aL X610 hx (hb hby d_prog_23m4_8) (q := 9) rfl rfl rfl ?_
  have f611 : Fld Z h608 a1 "com/example/quaymark/quaymark/Review" "leftOut" "Ljava/util/List;" (.ref a3) := P2.ext E608
  refine g_getF X610 hx hZ0 hown0 (host := "") (Or.inl (wd106 hw)) Via.refl f611 e610 (hb hby d_prog_23m4_9) (q := 12) rfl ?_
  intro T612 X612 e612
  refine aL X612 hx (hb hby d_prog_23m4_12) (q := 13) rfl rfl P3 ?_
  refine cN X612 hx (hb hby d_prog_23m4_13) (q := 14) rfl ?_
  have gz616 : Z.heap.size ≤ b608 := Nat.le_trans O0.2.1 (Nat.le_of_eq g608.symm)
  have f617 : Exa Z h608 a3 "java/util/ImmutableCollections$List12" := P2b.ext E608
  have f618 : Old Z Z.heap.size h608 := O0.ext E608
  refine g_sp X612 hx hZ0 hown0 (wd118 hw) (wd72 hw) (wd73 hw) rfl (by decide) e612 (Con.back (W := 1) (rm_rvL l Z a0 hw zC SC PC aE SE aD SD aM SM mO MO b608 a2 vW .null a3 h608 f618 A608 F608_105 F608_107 F608_109 F608_111 gz616 P3 rfl f617) hZ0 (wd73 hw) (wd70 hw) (by decide) (by decide)) (by rw [hml]; rfl) (lenOf pd21 rfl) rfl (Nat.le_of_eq rfl) (hb hby d_prog_23m4_14) (q := 17) rfl (by decide) (by decide) ?_
  intro v615 T615 L615 X615 Q615
  obtain ⟨rfl, Nq615, K615q, q615_0, q615_1, q615_2, q615_3, q615_4⟩ := Q615
  have N615 := Fr.app N0 Nq615
  show Go _ _ _ _ (T615.setTop (mkF m 17 #[.val (.ref a1), .val vW] [(.ref b608)]))
  have K619 : Keep h0 h608 [] := (Keep.refl h0 []).ext E608
  have gh620 : h0.size ≤ b608 := Nat.le_trans (Nat.le_refl _) (Nat.le_of_eq g608.symm)
  have K621 : Keep h0 T615.heap [] := K619.trans K615q (allS (Or.inr gh620) all0)
  refine endP X615 hlk (fun h => by rw [hret] at h; cases h) (lastA X615 hx hret rfl rfl rfl (hb hby d_prog_23m4_17)) ?_ (by decide) (by decide)
  exact ⟨b608, rfl, N615, K621, gh620, q615_0, q615_1, q615_2, q615_3, q615_4⟩
theorem d_prog_23m12_0 : decode prog_23_method_12_code 0 = .ok (.aload_n 0, 1) := by decide +kernel
theorem d_prog_23m12_1 : decode prog_23_method_12_code 1 = .ok (.getfield 13, 3) := by decide +kernel
theorem d_prog_23m12_4 : decode prog_23_method_12_code 4 = .ok (.areturn, 1) := by decide +kernel
def Q_get_submittedBy (Z : State) (zC : Int32) (aE : Addr) (aD : Addr) (aM : Addr) (mO : Addr) (a1 : Addr) (a2 : Addr) (h0 : Heap) (v : Option Value) (h : Heap) (L : List Loc) : Prop := v = some (.ref a2) ∧ Fr Z.heap.size L ∧ h = h0
theorem rm_get_submittedBy (l : Launch) (Z : State) (a0 : Array Value) (hw : HW a0 Z) (zC : Int32) (SC : tSC Z zC) (PC : ¬ zC = (0 : Int32)) (aE : Addr) (SE : tSE Z aE) (aD : Addr) (SD : tSD Z aD) (aM : Addr) (SM : tSM Z aM) (mO : Addr) (MO : tMO Z mO) (a1 : Addr) (a2 : Addr) (h0 : Heap) (O0 : Old Z Z.heap.size h0) (P1 : Fld Z h0 a1 "com/example/quaymark/quaymark/Review" "submittedBy" "Ljava/lang/String;" (.ref a2)) :
    Con l Z (⟨"com/example/quaymark/quaymark/Review", "submittedBy", "()Ljava/lang/String;"⟩ : MethodName) prog_23_method_12_code 1 (some (.object "java/lang/String")) ({ frames := 0, cells := 0, slots := 0, locals := 0 } : Room) #[(.ref a1)] h0 (Q_get_submittedBy Z zC aE aD aM mO a1 a2 h0) := by
  refine Con.intro (plainFor_of_name pn16) ?_
  intro p e s m below meth c T0 X0 hx hby hml hown0 hnm hret hlk hZ0 e0
  have N0 := Fr.nil Z.heap.size
  refine castGo (g' := mkF m 0 #[.val (.ref a1)] []) (by first | rfl | (simp [entryFrame, mkF, argsToLocals, Value.category]; done)) ?_
  show Go _ _ _ _ (T0.setTop (mkF m 0 #[.val (.ref a1)] []))
  refine aL X0 hx (hb hby d_prog_23m12_0) (q := 1) rfl rfl rfl ?_
  refine g_getF X0 hx hZ0 hown0 (host := "") (Or.inl (wd104 hw)) Via.refl P1 e0 (hb hby d_prog_23m12_1) (q := 4) rfl ?_
  intro T622 X622 e622
  refine endP X622 hlk (fun h => by rw [hret] at h; cases h) (lastA X622 hx hret rfl rfl rfl (hb hby d_prog_23m12_4)) ?_ (by decide) (by decide)
  rw [e622]
  exact ⟨rfl, N0, rfl⟩
theorem d_prog_23m13_0 : decode prog_23_method_13_code 0 = .ok (.aload_n 0, 1) := by decide +kernel
theorem d_prog_23m13_1 : decode prog_23_method_13_code 1 = .ok (.getfield 19, 3) := by decide +kernel
theorem d_prog_23m13_4 : decode prog_23_method_13_code 4 = .ok (.areturn, 1) := by decide +kernel
def Q_get_leftOut (Z : State) (zC : Int32) (aE : Addr) (aD : Addr) (aM : Addr) (mO : Addr) (a1 : Addr) (a2 : Addr) (h0 : Heap) (v : Option Value) (h : Heap) (L : List Loc) : Prop := v = some (.ref a2) ∧ Fr Z.heap.size L ∧ h = h0
theorem rm_get_leftOut (l : Launch) (Z : State) (a0 : Array Value) (hw : HW a0 Z) (zC : Int32) (SC : tSC Z zC) (PC : ¬ zC = (0 : Int32)) (aE : Addr) (SE : tSE Z aE) (aD : Addr) (SD : tSD Z aD) (aM : Addr) (SM : tSM Z aM) (mO : Addr) (MO : tMO Z mO) (a1 : Addr) (a2 : Addr) (h0 : Heap) (O0 : Old Z Z.heap.size h0) (P1 : Fld Z h0 a1 "com/example/quaymark/quaymark/Review" "leftOut" "Ljava/util/List;" (.ref a2)) :
    Con l Z (⟨"com/example/quaymark/quaymark/Review", "leftOut", "()Ljava/util/List;"⟩ : MethodName) prog_23_method_13_code 1 (some (.object "java/util/List")) ({ frames := 0, cells := 0, slots := 0, locals := 0 } : Room) #[(.ref a1)] h0 (Q_get_leftOut Z zC aE aD aM mO a1 a2 h0) := by
  refine Con.intro (plainFor_of_name pn16) ?_
  intro p e s m below meth c T0 X0 hx hby hml hown0 hnm hret hlk hZ0 e0
  have N0 := Fr.nil Z.heap.size
  refine castGo (g' := mkF m 0 #[.val (.ref a1)] []) (by first | rfl | (simp [entryFrame, mkF, argsToLocals, Value.category]; done)) ?_
  show Go _ _ _ _ (T0.setTop (mkF m 0 #[.val (.ref a1)] []))
  refine aL X0 hx (hb hby d_prog_23m13_0) (q := 1) rfl rfl rfl ?_
  refine g_getF X0 hx hZ0 hown0 (host := "") (Or.inl (wd106 hw)) Via.refl P1 e0 (hb hby d_prog_23m13_1) (q := 4) rfl ?_
  intro T623 X623 e623
  refine endP X623 hlk (fun h => by rw [hret] at h; cases h) (lastA X623 hx hret rfl rfl rfl (hb hby d_prog_23m13_4)) ?_ (by decide) (by decide)
  rw [e623]
  exact ⟨rfl, N0, rfl⟩
theorem d_prog_23m14_0 : decode prog_23_method_14_code 0 = .ok (.aload_n 0, 1) := by decide +kernel
theorem d_prog_23m14_1 : decode prog_23_method_14_code 1 = .ok (.getfield 23, 3) := by decide +kernel
theorem d_prog_23m14_4 : decode prog_23_method_14_code 4 = .ok (.areturn, 1) := by decide +kernel
def Q_get_signedOffBy (Z : State) (zC : Int32) (aE : Addr) (aD : Addr) (aM : Addr) (mO : Addr) (a1 : Addr) (v2 : Value) (h0 : Heap) (v : Option Value) (h : Heap) (L : List Loc) : Prop := v = some v2 ∧ Fr Z.heap.size L ∧ h = h0
theorem rm_get_signedOffBy (l : Launch) (Z : State) (a0 : Array Value) (hw : HW a0 Z) (zC : Int32) (SC : tSC Z zC) (PC : ¬ zC = (0 : Int32)) (aE : Addr) (SE : tSE Z aE) (aD : Addr) (SD : tSD Z aD) (aM : Addr) (SM : tSM Z aM) (mO : Addr) (MO : tMO Z mO) (a1 : Addr) (v2 : Value) (h0 : Heap) (O0 : Old Z Z.heap.size h0) (P1 : Fld Z h0 a1 "com/example/quaymark/quaymark/Review" "signedOffBy" "Ljava/lang/String;" v2) (P2 : v2.isRef = true) :
    Con l Z (⟨"com/example/quaymark/quaymark/Review", "signedOffBy", "()Ljava/lang/String;"⟩ : MethodName) prog_23_method_14_code 1 (some (.object "java/lang/String")) ({ frames := 0, cells := 0, slots := 0, locals := 0 } : Room) #[(.ref a1)] h0 (Q_get_signedOffBy Z zC aE aD aM mO a1 v2 h0) := by
  refine Con.intro (plainFor_of_name pn16) ?_
  intro p e s m below meth c T0 X0 hx hby hml hown0 hnm hret hlk hZ0 e0
  have N0 := Fr.nil Z.heap.size
  refine castGo (g' := mkF m 0 #[.val (.ref a1)] []) (by first | rfl | (simp [entryFrame, mkF, argsToLocals, Value.category]; done)) ?_
  show Go _ _ _ _ (T0.setTop (mkF m 0 #[.val (.ref a1)] []))
  refine aL X0 hx (hb hby d_prog_23m14_0) (q := 1) rfl rfl rfl ?_
  refine g_getF X0 hx hZ0 hown0 (host := "") (Or.inl (wd108 hw)) Via.refl P1 e0 (hb hby d_prog_23m14_1) (q := 4) rfl ?_
  intro T624 X624 e624
  refine endP X624 hlk (fun h => by rw [hret] at h; cases h) (lastA X624 hx hret rfl (own_nref P2) P2 (hb hby d_prog_23m14_4)) ?_ (by decide) (by decide)
  rw [e624]
  exact ⟨rfl, N0, rfl⟩
theorem d_prog_23m15_0 : decode prog_23_method_15_code 0 = .ok (.aload_n 0, 1) := by decide +kernel
theorem d_prog_23m15_1 : decode prog_23_method_15_code 1 = .ok (.getfield 26, 3) := by decide +kernel
theorem d_prog_23m15_4 : decode prog_23_method_15_code 4 = .ok (.areturn, 1) := by decide +kernel
def Q_get_withdrawn (Z : State) (zC : Int32) (aE : Addr) (aD : Addr) (aM : Addr) (mO : Addr) (a1 : Addr) (h0 : Heap) (v : Option Value) (h : Heap) (L : List Loc) : Prop := v = some .null ∧ Fr Z.heap.size L ∧ h = h0
theorem rm_get_withdrawn (l : Launch) (Z : State) (a0 : Array Value) (hw : HW a0 Z) (zC : Int32) (SC : tSC Z zC) (PC : ¬ zC = (0 : Int32)) (aE : Addr) (SE : tSE Z aE) (aD : Addr) (SD : tSD Z aD) (aM : Addr) (SM : tSM Z aM) (mO : Addr) (MO : tMO Z mO) (a1 : Addr) (h0 : Heap) (O0 : Old Z Z.heap.size h0) (P1 : Fld Z h0 a1 "com/example/quaymark/quaymark/Review" "withdrawn" "Lcom/example/quaymark/quaymark/Review$Withdrawal;" .null) :
    Con l Z (⟨"com/example/quaymark/quaymark/Review", "withdrawn", "()Lcom/example/quaymark/quaymark/Review$Withdrawal;"⟩ : MethodName) prog_23_method_15_code 1 (some (.object "com/example/quaymark/quaymark/Review$Withdrawal")) ({ frames := 0, cells := 0, slots := 0, locals := 0 } : Room) #[(.ref a1)] h0 (Q_get_withdrawn Z zC aE aD aM mO a1 h0) := by
  refine Con.intro (plainFor_of_name pn16) ?_
  intro p e s m below meth c T0 X0 hx hby hml hown0 hnm hret hlk hZ0 e0
  have N0 := Fr.nil Z.heap.size
  refine castGo (g' := mkF m 0 #[.val (.ref a1)] []) (by first | rfl | (simp [entryFrame, mkF, argsToLocals, Value.category]; done)) ?_
  show Go _ _ _ _ (T0.setTop (mkF m 0 #[.val (.ref a1)] []))
  refine aL X0 hx (hb hby d_prog_23m15_0) (q := 1) rfl rfl rfl ?_
  refine g_getF X0 hx hZ0 hown0 (host := "") (Or.inl (wd110 hw)) Via.refl P1 e0 (hb hby d_prog_23m15_1) (q := 4) rfl ?_
  intro T625 X625 e625
  refine endP X625 hlk (fun h => by rw [hret] at h; cases h) (lastA X625 hx hret rfl rfl rfl (hb hby d_prog_23m15_4)) ?_ (by decide) (by decide)
  rw [e625]
  exact ⟨rfl, N0, rfl⟩
theorem own_c (x : Int32) : ((x.toUInt32 >>> ((3 : Int32) &&& 31).toUInt32).toInt32) % 3 = 0 ∨ ((x.toUInt32 >>> ((3 : Int32) &&& 31).toUInt32).toInt32) % 3 = 1 ∨ ((x.toUInt32 >>> ((3 : Int32) &&& 31).toUInt32).toInt32) % 3 = 2 := by
  have h := c_iushr x 3 3 (by decide) (by decide)
  have h3 : (2 ^ 3 : Nat) = 8 := by decide
  rw [h3] at h
  generalize ((x.toUInt32 >>> ((3 : Int32) &&& 31).toUInt32).toInt32) = y at *
  have h2 := (c_irem y 3 3 (by decide)).1
  have h4 := h2 (by omega)
  have c0 : (0 : Int32).toInt = 0 := by decide
  have c1 : (1 : Int32).toInt = 1 := by decide
  have c2 : (2 : Int32).toInt = 2 := by decide
  simp only [← Int32.toInt_inj, c0, c1, c2]
  omega
theorem wd3 {a0 : Array Value} {Z : State} (hw : HW a0 Z) : ((Jvm.Cond.code ({ cls := "com/example/quaymark/quaymark/ReviewSignedOffPinLaw", name := "str", desc := "(I)Ljava/lang/String;" } : Jvm.MethodName) method_2_code (5 : Nat) (Option.some (Jvm.ClassFile.FieldType.object "java/lang/String"))) : Jvm.Cond).before a0 Z = true := hw _ (List.mem_of_getElem? (i := 3) rfl)
theorem wd2 {a0 : Array Value} {Z : State} (hw : HW a0 Z) : ((Jvm.Cond.initialized "com/example/quaymark/quaymark/ReviewSignedOffPinLaw") : Jvm.Cond).before a0 Z = true := hw _ (List.mem_of_getElem? (i := 2) rfl)
theorem pd22 : parseMethodDescriptor "(I)Ljava/lang/String;" = some ⟨[.int], some (.object "java/lang/String")⟩ := by decide +kernel
theorem wd0 {a0 : Array Value} {Z : State} (hw : HW a0 Z) : ((Jvm.Cond.methodLink "com/example/quaymark/quaymark/ReviewSignedOffPinLaw" (20 : Nat) ({ cls := "com/example/quaymark/quaymark/ReviewSignedOffPinLaw", name := "str", desc := "(I)Ljava/lang/String;" } : Jvm.MethodName)) : Jvm.Cond).before a0 Z = true := hw _ (List.mem_of_getElem? (i := 0) rfl)
theorem wd1 {a0 : Array Value} {Z : State} (hw : HW a0 Z) : ((Jvm.Cond.static ({ cls := "com/example/quaymark/quaymark/ReviewSignedOffPinLaw", name := "str", desc := "(I)Ljava/lang/String;" } : Jvm.MethodName)) : Jvm.Cond).before a0 Z = true := hw _ (List.mem_of_getElem? (i := 1) rfl)
theorem wd166 {a0 : Array Value} {Z : State} (hw : HW a0 Z) : ((Jvm.Cond.classLink "com/example/quaymark/quaymark/ReviewSignedOffPinLaw" (26 : Nat) "com/example/quaymark/quaymark/Review$Withdrawal") : Jvm.Cond).before a0 Z = true := hw _ (List.mem_of_getElem? (i := 166) rfl)
theorem wd168 {a0 : Array Value} {Z : State} (hw : HW a0 Z) : ((Jvm.Cond.initialized "com/example/quaymark/quaymark/Review$Withdrawal") : Jvm.Cond).before a0 Z = true := hw _ (List.mem_of_getElem? (i := 168) rfl)
theorem wd171 {a0 : Array Value} {Z : State} (hw : HW a0 Z) : ((Jvm.Cond.code ({ cls := "com/example/quaymark/quaymark/Review$Withdrawal", name := "<init>", desc := "(Ljava/lang/String;Ljava/lang/String;)V" } : Jvm.MethodName) prog_25_method_1_code (3 : Nat) (Option.none : Option Jvm.ClassFile.FieldType)) : Jvm.Cond).before a0 Z = true := hw _ (List.mem_of_getElem? (i := 171) rfl)
theorem pd23 : parseMethodDescriptor "(Ljava/lang/String;Ljava/lang/String;)V" = some ⟨[(.object "java/lang/String"), (.object "java/lang/String")], none⟩ := by decide +kernel
theorem wd169 {a0 : Array Value} {Z : State} (hw : HW a0 Z) : ((Jvm.Cond.methodLink "com/example/quaymark/quaymark/ReviewSignedOffPinLaw" (28 : Nat) ({ cls := "com/example/quaymark/quaymark/Review$Withdrawal", name := "<init>", desc := "(Ljava/lang/String;Ljava/lang/String;)V" } : Jvm.MethodName)) : Jvm.Cond).before a0 Z = true := hw _ (List.mem_of_getElem? (i := 169) rfl)
theorem wd170 {a0 : Array Value} {Z : State} (hw : HW a0 Z) : ((Jvm.Cond.instanceMethod ({ cls := "com/example/quaymark/quaymark/Review$Withdrawal", name := "<init>", desc := "(Ljava/lang/String;Ljava/lang/String;)V" } : Jvm.MethodName)) : Jvm.Cond).before a0 Z = true := hw _ (List.mem_of_getElem? (i := 170) rfl)
theorem wd26 {a0 : Array Value} {Z : State} (hw : HW a0 Z) : ((Jvm.Cond.classLink "com/example/quaymark/quaymark/ReviewSignedOffPinLaw" (31 : Nat) "com/example/quaymark/quaymark/Review$LeftOut") : Jvm.Cond).before a0 Z = true := hw _ (List.mem_of_getElem? (i := 26) rfl)
theorem wd28 {a0 : Array Value} {Z : State} (hw : HW a0 Z) : ((Jvm.Cond.initialized "com/example/quaymark/quaymark/Review$LeftOut") : Jvm.Cond).before a0 Z = true := hw _ (List.mem_of_getElem? (i := 28) rfl)
theorem wd31 {a0 : Array Value} {Z : State} (hw : HW a0 Z) : ((Jvm.Cond.code ({ cls := "com/example/quaymark/quaymark/Review$LeftOut", name := "<init>", desc := "(ILjava/lang/String;Ljava/lang/String;)V" } : Jvm.MethodName) prog_24_method_1_code (4 : Nat) (Option.none : Option Jvm.ClassFile.FieldType)) : Jvm.Cond).before a0 Z = true := hw _ (List.mem_of_getElem? (i := 31) rfl)
theorem pd24 : parseMethodDescriptor "(ILjava/lang/String;Ljava/lang/String;)V" = some ⟨[.int, (.object "java/lang/String"), (.object "java/lang/String")], none⟩ := by decide +kernel
theorem wd29 {a0 : Array Value} {Z : State} (hw : HW a0 Z) : ((Jvm.Cond.methodLink "com/example/quaymark/quaymark/ReviewSignedOffPinLaw" (33 : Nat) ({ cls := "com/example/quaymark/quaymark/Review$LeftOut", name := "<init>", desc := "(ILjava/lang/String;Ljava/lang/String;)V" } : Jvm.MethodName)) : Jvm.Cond).before a0 Z = true := hw _ (List.mem_of_getElem? (i := 29) rfl)
theorem wd30 {a0 : Array Value} {Z : State} (hw : HW a0 Z) : ((Jvm.Cond.instanceMethod ({ cls := "com/example/quaymark/quaymark/Review$LeftOut", name := "<init>", desc := "(ILjava/lang/String;Ljava/lang/String;)V" } : Jvm.MethodName)) : Jvm.Cond).before a0 Z = true := hw _ (List.mem_of_getElem? (i := 30) rfl)
theorem wd44 {a0 : Array Value} {Z : State} (hw : HW a0 Z) : ((Jvm.Cond.classLink "com/example/quaymark/quaymark/ReviewSignedOffPinLaw" (36 : Nat) "java/util/ArrayList") : Jvm.Cond).before a0 Z = true := hw _ (List.mem_of_getElem? (i := 44) rfl)
theorem wd49 {a0 : Array Value} {Z : State} (hw : HW a0 Z) : ((Jvm.Cond.code ({ cls := "java/util/ArrayList", name := "<init>", desc := "()V" } : Jvm.MethodName) jdk_38_method_2_code (1 : Nat) (Option.none : Option Jvm.ClassFile.FieldType)) : Jvm.Cond).before a0 Z = true := hw _ (List.mem_of_getElem? (i := 49) rfl)
theorem wd47 {a0 : Array Value} {Z : State} (hw : HW a0 Z) : ((Jvm.Cond.methodLink "com/example/quaymark/quaymark/ReviewSignedOffPinLaw" (38 : Nat) ({ cls := "java/util/ArrayList", name := "<init>", desc := "()V" } : Jvm.MethodName)) : Jvm.Cond).before a0 Z = true := hw _ (List.mem_of_getElem? (i := 47) rfl)
theorem wd48 {a0 : Array Value} {Z : State} (hw : HW a0 Z) : ((Jvm.Cond.instanceMethod ({ cls := "java/util/ArrayList", name := "<init>", desc := "()V" } : Jvm.MethodName)) : Jvm.Cond).before a0 Z = true := hw _ (List.mem_of_getElem? (i := 48) rfl)
theorem wd68 {a0 : Array Value} {Z : State} (hw : HW a0 Z) : ((Jvm.Cond.classLink "com/example/quaymark/quaymark/ReviewSignedOffPinLaw" (44 : Nat) "com/example/quaymark/quaymark/Review") : Jvm.Cond).before a0 Z = true := hw _ (List.mem_of_getElem? (i := 68) rfl)
theorem wd71 {a0 : Array Value} {Z : State} (hw : HW a0 Z) : ((Jvm.Cond.methodLink "com/example/quaymark/quaymark/ReviewSignedOffPinLaw" (46 : Nat) ({ cls := "com/example/quaymark/quaymark/Review", name := "<init>", desc := "(Ljava/lang/String;Ljava/util/List;Ljava/lang/String;Lcom/example/quaymark/quaymark/Review$Withdrawal;)V" } : Jvm.MethodName)) : Jvm.Cond).before a0 Z = true := hw _ (List.mem_of_getElem? (i := 71) rfl)
theorem wd116 {a0 : Array Value} {Z : State} (hw : HW a0 Z) : ((Jvm.Cond.code ({ cls := "com/example/quaymark/quaymark/Review", name := "signedOff", desc := "(Ljava/lang/String;)Lcom/example/quaymark/quaymark/Review;" } : Jvm.MethodName) prog_23_method_4_code (2 : Nat) (Option.some (Jvm.ClassFile.FieldType.object "com/example/quaymark/quaymark/Review"))) : Jvm.Cond).before a0 Z = true := hw _ (List.mem_of_getElem? (i := 116) rfl)
theorem pd25 : parseMethodDescriptor "(Ljava/lang/String;)Lcom/example/quaymark/quaymark/Review;" = some ⟨[(.object "java/lang/String")], some (.object "com/example/quaymark/quaymark/Review")⟩ := by decide +kernel
theorem wd115 {a0 : Array Value} {Z : State} (hw : HW a0 Z) : ((Jvm.Cond.selects "com/example/quaymark/quaymark/Review" ({ cls := "com/example/quaymark/quaymark/Review", name := "signedOff", desc := "(Ljava/lang/String;)Lcom/example/quaymark/quaymark/Review;" } : Jvm.MethodName) ({ cls := "com/example/quaymark/quaymark/Review", name := "signedOff", desc := "(Ljava/lang/String;)Lcom/example/quaymark/quaymark/Review;" } : Jvm.MethodName)) : Jvm.Cond).before a0 Z = true := hw _ (List.mem_of_getElem? (i := 115) rfl)
theorem wd112 {a0 : Array Value} {Z : State} (hw : HW a0 Z) : ((Jvm.Cond.methodLink "com/example/quaymark/quaymark/ReviewSignedOffPinLaw" (49 : Nat) ({ cls := "com/example/quaymark/quaymark/Review", name := "signedOff", desc := "(Ljava/lang/String;)Lcom/example/quaymark/quaymark/Review;" } : Jvm.MethodName)) : Jvm.Cond).before a0 Z = true := hw _ (List.mem_of_getElem? (i := 112) rfl)
theorem wd113 {a0 : Array Value} {Z : State} (hw : HW a0 Z) : ((Jvm.Cond.declares ({ cls := "com/example/quaymark/quaymark/Review", name := "signedOff", desc := "(Ljava/lang/String;)Lcom/example/quaymark/quaymark/Review;" } : Jvm.MethodName)) : Jvm.Cond).before a0 Z = true := hw _ (List.mem_of_getElem? (i := 113) rfl)
theorem wd114 {a0 : Array Value} {Z : State} (hw : HW a0 Z) : ((Jvm.Cond.instanceMethod ({ cls := "com/example/quaymark/quaymark/Review", name := "signedOff", desc := "(Ljava/lang/String;)Lcom/example/quaymark/quaymark/Review;" } : Jvm.MethodName)) : Jvm.Cond).before a0 Z = true := hw _ (List.mem_of_getElem? (i := 114) rfl)
theorem wd131 {a0 : Array Value} {Z : State} (hw : HW a0 Z) : ((Jvm.Cond.code ({ cls := "com/example/quaymark/quaymark/Review", name := "leftOut", desc := "()Ljava/util/List;" } : Jvm.MethodName) prog_23_method_13_code (1 : Nat) (Option.some (Jvm.ClassFile.FieldType.object "java/util/List"))) : Jvm.Cond).before a0 Z = true := hw _ (List.mem_of_getElem? (i := 131) rfl)
theorem wd130 {a0 : Array Value} {Z : State} (hw : HW a0 Z) : ((Jvm.Cond.selects "com/example/quaymark/quaymark/Review" ({ cls := "com/example/quaymark/quaymark/Review", name := "leftOut", desc := "()Ljava/util/List;" } : Jvm.MethodName) ({ cls := "com/example/quaymark/quaymark/Review", name := "leftOut", desc := "()Ljava/util/List;" } : Jvm.MethodName)) : Jvm.Cond).before a0 Z = true := hw _ (List.mem_of_getElem? (i := 130) rfl)
theorem wd127 {a0 : Array Value} {Z : State} (hw : HW a0 Z) : ((Jvm.Cond.methodLink "com/example/quaymark/quaymark/ReviewSignedOffPinLaw" (53 : Nat) ({ cls := "com/example/quaymark/quaymark/Review", name := "leftOut", desc := "()Ljava/util/List;" } : Jvm.MethodName)) : Jvm.Cond).before a0 Z = true := hw _ (List.mem_of_getElem? (i := 127) rfl)
theorem wd128 {a0 : Array Value} {Z : State} (hw : HW a0 Z) : ((Jvm.Cond.declares ({ cls := "com/example/quaymark/quaymark/Review", name := "leftOut", desc := "()Ljava/util/List;" } : Jvm.MethodName)) : Jvm.Cond).before a0 Z = true := hw _ (List.mem_of_getElem? (i := 128) rfl)
theorem wd129 {a0 : Array Value} {Z : State} (hw : HW a0 Z) : ((Jvm.Cond.instanceMethod ({ cls := "com/example/quaymark/quaymark/Review", name := "leftOut", desc := "()Ljava/util/List;" } : Jvm.MethodName)) : Jvm.Cond).before a0 Z = true := hw _ (List.mem_of_getElem? (i := 129) rfl)
theorem wd140 {a0 : Array Value} {Z : State} (hw : HW a0 Z) : ((Jvm.Cond.code ({ cls := "java/util/ImmutableCollections$ListN", name := "size", desc := "()I" } : Jvm.MethodName) jdk_45_method_3_code (1 : Nat) (Option.some Jvm.ClassFile.FieldType.int)) : Jvm.Cond).before a0 Z = true := hw _ (List.mem_of_getElem? (i := 140) rfl)
theorem wd139 {a0 : Array Value} {Z : State} (hw : HW a0 Z) : ((Jvm.Cond.initialized "java/util/ImmutableCollections$ListN") : Jvm.Cond).before a0 Z = true := hw _ (List.mem_of_getElem? (i := 139) rfl)
theorem pd26 : parseMethodDescriptor "()I" = some ⟨[], some .int⟩ := by decide +kernel
theorem wd132 {a0 : Array Value} {Z : State} (hw : HW a0 Z) : ((Jvm.Cond.methodLink "com/example/quaymark/quaymark/ReviewSignedOffPinLaw" (57 : Nat) ({ cls := "java/util/List", name := "size", desc := "()I" } : Jvm.MethodName)) : Jvm.Cond).before a0 Z = true := hw _ (List.mem_of_getElem? (i := 132) rfl)
theorem wd133 {a0 : Array Value} {Z : State} (hw : HW a0 Z) : ((Jvm.Cond.declares ({ cls := "java/util/List", name := "size", desc := "()I" } : Jvm.MethodName)) : Jvm.Cond).before a0 Z = true := hw _ (List.mem_of_getElem? (i := 133) rfl)
theorem wd134 {a0 : Array Value} {Z : State} (hw : HW a0 Z) : ((Jvm.Cond.interfaceMethod "java/util/List" "java/util/List" "size" "()I") : Jvm.Cond).before a0 Z = true := hw _ (List.mem_of_getElem? (i := 134) rfl)
theorem wd135 {a0 : Array Value} {Z : State} (hw : HW a0 Z) : ((Jvm.Cond.selects "java/util/ImmutableCollections$ListN" ({ cls := "java/util/List", name := "size", desc := "()I" } : Jvm.MethodName) ({ cls := "java/util/ImmutableCollections$ListN", name := "size", desc := "()I" } : Jvm.MethodName)) : Jvm.Cond).before a0 Z = true := hw _ (List.mem_of_getElem? (i := 135) rfl)
theorem wd136 {a0 : Array Value} {Z : State} (hw : HW a0 Z) : ((Jvm.Cond.instanceMethod ({ cls := "java/util/ImmutableCollections$ListN", name := "size", desc := "()I" } : Jvm.MethodName)) : Jvm.Cond).before a0 Z = true := hw _ (List.mem_of_getElem? (i := 136) rfl)
theorem wd137 {a0 : Array Value} {Z : State} (hw : HW a0 Z) : ((Jvm.Cond.publicMethod ({ cls := "java/util/ImmutableCollections$ListN", name := "size", desc := "()I" } : Jvm.MethodName)) : Jvm.Cond).before a0 Z = true := hw _ (List.mem_of_getElem? (i := 137) rfl)
theorem wd138 {a0 : Array Value} {Z : State} (hw : HW a0 Z) : ((Jvm.Cond.unhidden "java/util/ImmutableCollections$ListN" "size" "()I") : Jvm.Cond).before a0 Z = true := hw _ (List.mem_of_getElem? (i := 138) rfl)
theorem wd147 {a0 : Array Value} {Z : State} (hw : HW a0 Z) : ((Jvm.Cond.code ({ cls := "com/example/quaymark/quaymark/Review", name := "submittedBy", desc := "()Ljava/lang/String;" } : Jvm.MethodName) prog_23_method_12_code (1 : Nat) (Option.some (Jvm.ClassFile.FieldType.object "java/lang/String"))) : Jvm.Cond).before a0 Z = true := hw _ (List.mem_of_getElem? (i := 147) rfl)
theorem pd27 : parseMethodDescriptor "()Ljava/lang/String;" = some ⟨[], some (.object "java/lang/String")⟩ := by decide +kernel
theorem wd146 {a0 : Array Value} {Z : State} (hw : HW a0 Z) : ((Jvm.Cond.selects "com/example/quaymark/quaymark/Review" ({ cls := "com/example/quaymark/quaymark/Review", name := "submittedBy", desc := "()Ljava/lang/String;" } : Jvm.MethodName) ({ cls := "com/example/quaymark/quaymark/Review", name := "submittedBy", desc := "()Ljava/lang/String;" } : Jvm.MethodName)) : Jvm.Cond).before a0 Z = true := hw _ (List.mem_of_getElem? (i := 146) rfl)
theorem wd143 {a0 : Array Value} {Z : State} (hw : HW a0 Z) : ((Jvm.Cond.methodLink "com/example/quaymark/quaymark/ReviewSignedOffPinLaw" (65 : Nat) ({ cls := "com/example/quaymark/quaymark/Review", name := "submittedBy", desc := "()Ljava/lang/String;" } : Jvm.MethodName)) : Jvm.Cond).before a0 Z = true := hw _ (List.mem_of_getElem? (i := 143) rfl)
theorem wd144 {a0 : Array Value} {Z : State} (hw : HW a0 Z) : ((Jvm.Cond.declares ({ cls := "com/example/quaymark/quaymark/Review", name := "submittedBy", desc := "()Ljava/lang/String;" } : Jvm.MethodName)) : Jvm.Cond).before a0 Z = true := hw _ (List.mem_of_getElem? (i := 144) rfl)
theorem wd145 {a0 : Array Value} {Z : State} (hw : HW a0 Z) : ((Jvm.Cond.instanceMethod ({ cls := "com/example/quaymark/quaymark/Review", name := "submittedBy", desc := "()Ljava/lang/String;" } : Jvm.MethodName)) : Jvm.Cond).before a0 Z = true := hw _ (List.mem_of_getElem? (i := 145) rfl)
theorem wd150 {a0 : Array Value} {Z : State} (hw : HW a0 Z) : ((Jvm.Cond.code ({ cls := "com/example/quaymark/quaymark/ReviewSignedOffPinLaw", name := "same", desc := "(Ljava/lang/String;Ljava/lang/String;)Z" } : Jvm.MethodName) method_3_code (2 : Nat) (Option.some Jvm.ClassFile.FieldType.boolean)) : Jvm.Cond).before a0 Z = true := hw _ (List.mem_of_getElem? (i := 150) rfl)
theorem pd28 : parseMethodDescriptor "(Ljava/lang/String;Ljava/lang/String;)Z" = some ⟨[(.object "java/lang/String"), (.object "java/lang/String")], some .boolean⟩ := by decide +kernel
theorem wd148 {a0 : Array Value} {Z : State} (hw : HW a0 Z) : ((Jvm.Cond.methodLink "com/example/quaymark/quaymark/ReviewSignedOffPinLaw" (69 : Nat) ({ cls := "com/example/quaymark/quaymark/ReviewSignedOffPinLaw", name := "same", desc := "(Ljava/lang/String;Ljava/lang/String;)Z" } : Jvm.MethodName)) : Jvm.Cond).before a0 Z = true := hw _ (List.mem_of_getElem? (i := 148) rfl)
theorem wd149 {a0 : Array Value} {Z : State} (hw : HW a0 Z) : ((Jvm.Cond.static ({ cls := "com/example/quaymark/quaymark/ReviewSignedOffPinLaw", name := "same", desc := "(Ljava/lang/String;Ljava/lang/String;)Z" } : Jvm.MethodName)) : Jvm.Cond).before a0 Z = true := hw _ (List.mem_of_getElem? (i := 149) rfl)
theorem wd160 {a0 : Array Value} {Z : State} (hw : HW a0 Z) : ((Jvm.Cond.code ({ cls := "com/example/quaymark/quaymark/Review", name := "signedOffBy", desc := "()Ljava/lang/String;" } : Jvm.MethodName) prog_23_method_14_code (1 : Nat) (Option.some (Jvm.ClassFile.FieldType.object "java/lang/String"))) : Jvm.Cond).before a0 Z = true := hw _ (List.mem_of_getElem? (i := 160) rfl)
theorem wd159 {a0 : Array Value} {Z : State} (hw : HW a0 Z) : ((Jvm.Cond.selects "com/example/quaymark/quaymark/Review" ({ cls := "com/example/quaymark/quaymark/Review", name := "signedOffBy", desc := "()Ljava/lang/String;" } : Jvm.MethodName) ({ cls := "com/example/quaymark/quaymark/Review", name := "signedOffBy", desc := "()Ljava/lang/String;" } : Jvm.MethodName)) : Jvm.Cond).before a0 Z = true := hw _ (List.mem_of_getElem? (i := 159) rfl)
theorem wd156 {a0 : Array Value} {Z : State} (hw : HW a0 Z) : ((Jvm.Cond.methodLink "com/example/quaymark/quaymark/ReviewSignedOffPinLaw" (73 : Nat) ({ cls := "com/example/quaymark/quaymark/Review", name := "signedOffBy", desc := "()Ljava/lang/String;" } : Jvm.MethodName)) : Jvm.Cond).before a0 Z = true := hw _ (List.mem_of_getElem? (i := 156) rfl)
theorem wd157 {a0 : Array Value} {Z : State} (hw : HW a0 Z) : ((Jvm.Cond.declares ({ cls := "com/example/quaymark/quaymark/Review", name := "signedOffBy", desc := "()Ljava/lang/String;" } : Jvm.MethodName)) : Jvm.Cond).before a0 Z = true := hw _ (List.mem_of_getElem? (i := 157) rfl)
theorem wd158 {a0 : Array Value} {Z : State} (hw : HW a0 Z) : ((Jvm.Cond.instanceMethod ({ cls := "com/example/quaymark/quaymark/Review", name := "signedOffBy", desc := "()Ljava/lang/String;" } : Jvm.MethodName)) : Jvm.Cond).before a0 Z = true := hw _ (List.mem_of_getElem? (i := 158) rfl)
theorem wd165 {a0 : Array Value} {Z : State} (hw : HW a0 Z) : ((Jvm.Cond.code ({ cls := "com/example/quaymark/quaymark/Review", name := "withdrawn", desc := "()Lcom/example/quaymark/quaymark/Review$Withdrawal;" } : Jvm.MethodName) prog_23_method_15_code (1 : Nat) (Option.some (Jvm.ClassFile.FieldType.object "com/example/quaymark/quaymark/Review$Withdrawal"))) : Jvm.Cond).before a0 Z = true := hw _ (List.mem_of_getElem? (i := 165) rfl)
theorem pd29 : parseMethodDescriptor "()Lcom/example/quaymark/quaymark/Review$Withdrawal;" = some ⟨[], some (.object "com/example/quaymark/quaymark/Review$Withdrawal")⟩ := by decide +kernel
theorem wd164 {a0 : Array Value} {Z : State} (hw : HW a0 Z) : ((Jvm.Cond.selects "com/example/quaymark/quaymark/Review" ({ cls := "com/example/quaymark/quaymark/Review", name := "withdrawn", desc := "()Lcom/example/quaymark/quaymark/Review$Withdrawal;" } : Jvm.MethodName) ({ cls := "com/example/quaymark/quaymark/Review", name := "withdrawn", desc := "()Lcom/example/quaymark/quaymark/Review$Withdrawal;" } : Jvm.MethodName)) : Jvm.Cond).before a0 Z = true := hw _ (List.mem_of_getElem? (i := 164) rfl)
theorem wd161 {a0 : Array Value} {Z : State} (hw : HW a0 Z) : ((Jvm.Cond.methodLink "com/example/quaymark/quaymark/ReviewSignedOffPinLaw" (76 : Nat) ({ cls := "com/example/quaymark/quaymark/Review", name := "withdrawn", desc := "()Lcom/example/quaymark/quaymark/Review$Withdrawal;" } : Jvm.MethodName)) : Jvm.Cond).before a0 Z = true := hw _ (List.mem_of_getElem? (i := 161) rfl)
theorem wd162 {a0 : Array Value} {Z : State} (hw : HW a0 Z) : ((Jvm.Cond.declares ({ cls := "com/example/quaymark/quaymark/Review", name := "withdrawn", desc := "()Lcom/example/quaymark/quaymark/Review$Withdrawal;" } : Jvm.MethodName)) : Jvm.Cond).before a0 Z = true := hw _ (List.mem_of_getElem? (i := 162) rfl)
theorem wd163 {a0 : Array Value} {Z : State} (hw : HW a0 Z) : ((Jvm.Cond.instanceMethod ({ cls := "com/example/quaymark/quaymark/Review", name := "withdrawn", desc := "()Lcom/example/quaymark/quaymark/Review$Withdrawal;" } : Jvm.MethodName)) : Jvm.Cond).before a0 Z = true := hw _ (List.mem_of_getElem? (i := 163) rfl)
theorem wd185 {a0 : Array Value} {Z : State} (hw : HW a0 Z) : ((Jvm.Cond.code ({ cls := "java/util/ArrayList", name := "add", desc := "(Ljava/lang/Object;)Z" } : Jvm.MethodName) jdk_38_method_25_code (2 : Nat) (Option.some Jvm.ClassFile.FieldType.boolean)) : Jvm.Cond).before a0 Z = true := hw _ (List.mem_of_getElem? (i := 185) rfl)
theorem wd177 {a0 : Array Value} {Z : State} (hw : HW a0 Z) : ((Jvm.Cond.methodLink "com/example/quaymark/quaymark/ReviewSignedOffPinLaw" (39 : Nat) ({ cls := "java/util/List", name := "add", desc := "(Ljava/lang/Object;)Z" } : Jvm.MethodName)) : Jvm.Cond).before a0 Z = true := hw _ (List.mem_of_getElem? (i := 177) rfl)
theorem wd178 {a0 : Array Value} {Z : State} (hw : HW a0 Z) : ((Jvm.Cond.declares ({ cls := "java/util/List", name := "add", desc := "(Ljava/lang/Object;)Z" } : Jvm.MethodName)) : Jvm.Cond).before a0 Z = true := hw _ (List.mem_of_getElem? (i := 178) rfl)
theorem wd179 {a0 : Array Value} {Z : State} (hw : HW a0 Z) : ((Jvm.Cond.interfaceMethod "java/util/List" "java/util/List" "add" "(Ljava/lang/Object;)Z") : Jvm.Cond).before a0 Z = true := hw _ (List.mem_of_getElem? (i := 179) rfl)
theorem wd180 {a0 : Array Value} {Z : State} (hw : HW a0 Z) : ((Jvm.Cond.selects "java/util/ArrayList" ({ cls := "java/util/List", name := "add", desc := "(Ljava/lang/Object;)Z" } : Jvm.MethodName) ({ cls := "java/util/ArrayList", name := "add", desc := "(Ljava/lang/Object;)Z" } : Jvm.MethodName)) : Jvm.Cond).before a0 Z = true := hw _ (List.mem_of_getElem? (i := 180) rfl)
theorem wd181 {a0 : Array Value} {Z : State} (hw : HW a0 Z) : ((Jvm.Cond.instanceMethod ({ cls := "java/util/ArrayList", name := "add", desc := "(Ljava/lang/Object;)Z" } : Jvm.MethodName)) : Jvm.Cond).before a0 Z = true := hw _ (List.mem_of_getElem? (i := 181) rfl)
theorem wd182 {a0 : Array Value} {Z : State} (hw : HW a0 Z) : ((Jvm.Cond.publicMethod ({ cls := "java/util/ArrayList", name := "add", desc := "(Ljava/lang/Object;)Z" } : Jvm.MethodName)) : Jvm.Cond).before a0 Z = true := hw _ (List.mem_of_getElem? (i := 182) rfl)
theorem wd183 {a0 : Array Value} {Z : State} (hw : HW a0 Z) : ((Jvm.Cond.unhidden "java/util/ArrayList" "add" "(Ljava/lang/Object;)Z") : Jvm.Cond).before a0 Z = true := hw _ (List.mem_of_getElem? (i := 183) rfl)
theorem wd184 {a0 : Array Value} {Z : State} (hw : HW a0 Z) : ((Jvm.Cond.castable "java/util/ArrayList" "java/util/List") : Jvm.Cond).before a0 Z = true := hw _ (List.mem_of_getElem? (i := 184) rfl)
theorem wd278 {a0 : Array Value} {Z : State} (hw : HW a0 Z) : ((Jvm.Cond.code ({ cls := "java/util/ImmutableCollections$List12", name := "size", desc := "()I" } : Jvm.MethodName) jdk_44_method_3_code (1 : Nat) (Option.some Jvm.ClassFile.FieldType.int)) : Jvm.Cond).before a0 Z = true := hw _ (List.mem_of_getElem? (i := 278) rfl)
theorem wd274 {a0 : Array Value} {Z : State} (hw : HW a0 Z) : ((Jvm.Cond.selects "java/util/ImmutableCollections$List12" ({ cls := "java/util/List", name := "size", desc := "()I" } : Jvm.MethodName) ({ cls := "java/util/ImmutableCollections$List12", name := "size", desc := "()I" } : Jvm.MethodName)) : Jvm.Cond).before a0 Z = true := hw _ (List.mem_of_getElem? (i := 274) rfl)
theorem wd275 {a0 : Array Value} {Z : State} (hw : HW a0 Z) : ((Jvm.Cond.instanceMethod ({ cls := "java/util/ImmutableCollections$List12", name := "size", desc := "()I" } : Jvm.MethodName)) : Jvm.Cond).before a0 Z = true := hw _ (List.mem_of_getElem? (i := 275) rfl)
theorem wd276 {a0 : Array Value} {Z : State} (hw : HW a0 Z) : ((Jvm.Cond.publicMethod ({ cls := "java/util/ImmutableCollections$List12", name := "size", desc := "()I" } : Jvm.MethodName)) : Jvm.Cond).before a0 Z = true := hw _ (List.mem_of_getElem? (i := 276) rfl)
theorem wd277 {a0 : Array Value} {Z : State} (hw : HW a0 Z) : ((Jvm.Cond.unhidden "java/util/ImmutableCollections$List12" "size" "()I") : Jvm.Cond).before a0 Z = true := hw _ (List.mem_of_getElem? (i := 277) rfl)
theorem wd286 {a0 : Array Value} {Z : State} (hw : HW a0 Z) : ((Jvm.Cond.code ({ cls := "java/util/ImmutableCollections$List12", name := "get", desc := "(I)Ljava/lang/Object;" } : Jvm.MethodName) jdk_44_method_5_code (2 : Nat) (Option.some (Jvm.ClassFile.FieldType.object "java/lang/Object"))) : Jvm.Cond).before a0 Z = true := hw _ (List.mem_of_getElem? (i := 286) rfl)
theorem pd30 : parseMethodDescriptor "(I)Ljava/lang/Object;" = some ⟨[.int], some (.object "java/lang/Object")⟩ := by decide +kernel
theorem wd279 {a0 : Array Value} {Z : State} (hw : HW a0 Z) : ((Jvm.Cond.methodLink "com/example/quaymark/quaymark/ReviewSignedOffPinLaw" (61 : Nat) ({ cls := "java/util/List", name := "get", desc := "(I)Ljava/lang/Object;" } : Jvm.MethodName)) : Jvm.Cond).before a0 Z = true := hw _ (List.mem_of_getElem? (i := 279) rfl)
theorem wd280 {a0 : Array Value} {Z : State} (hw : HW a0 Z) : ((Jvm.Cond.declares ({ cls := "java/util/List", name := "get", desc := "(I)Ljava/lang/Object;" } : Jvm.MethodName)) : Jvm.Cond).before a0 Z = true := hw _ (List.mem_of_getElem? (i := 280) rfl)
theorem wd281 {a0 : Array Value} {Z : State} (hw : HW a0 Z) : ((Jvm.Cond.interfaceMethod "java/util/List" "java/util/List" "get" "(I)Ljava/lang/Object;") : Jvm.Cond).before a0 Z = true := hw _ (List.mem_of_getElem? (i := 281) rfl)
theorem wd282 {a0 : Array Value} {Z : State} (hw : HW a0 Z) : ((Jvm.Cond.selects "java/util/ImmutableCollections$List12" ({ cls := "java/util/List", name := "get", desc := "(I)Ljava/lang/Object;" } : Jvm.MethodName) ({ cls := "java/util/ImmutableCollections$List12", name := "get", desc := "(I)Ljava/lang/Object;" } : Jvm.MethodName)) : Jvm.Cond).before a0 Z = true := hw _ (List.mem_of_getElem? (i := 282) rfl)
theorem wd283 {a0 : Array Value} {Z : State} (hw : HW a0 Z) : ((Jvm.Cond.instanceMethod ({ cls := "java/util/ImmutableCollections$List12", name := "get", desc := "(I)Ljava/lang/Object;" } : Jvm.MethodName)) : Jvm.Cond).before a0 Z = true := hw _ (List.mem_of_getElem? (i := 283) rfl)
theorem wd284 {a0 : Array Value} {Z : State} (hw : HW a0 Z) : ((Jvm.Cond.publicMethod ({ cls := "java/util/ImmutableCollections$List12", name := "get", desc := "(I)Ljava/lang/Object;" } : Jvm.MethodName)) : Jvm.Cond).before a0 Z = true := hw _ (List.mem_of_getElem? (i := 284) rfl)
theorem wd285 {a0 : Array Value} {Z : State} (hw : HW a0 Z) : ((Jvm.Cond.unhidden "java/util/ImmutableCollections$List12" "get" "(I)Ljava/lang/Object;") : Jvm.Cond).before a0 Z = true := hw _ (List.mem_of_getElem? (i := 285) rfl)
def Q_law (Z : State) (zC : Int32) (aE : Addr) (aD : Addr) (aM : Addr) (mO : Addr) (p0 : Int32) (p1 : Int32) (p2 : Int32) (p3 : Int32) (p4 : Int32) (p5 : Int32) (eA : Addr) (eK : ClassId) (eL : List Value) (dK : ClassId) (dL : List Value) (h0 : Heap) (v : Option Value) (h : Heap) (L : List Loc) : Prop := v = some (.int (1 : Int32)) ∧ Fr Z.heap.size L ∧ True
theorem rm_law (l : Launch) (Z : State) (a0 : Array Value) (hw : HW a0 Z) (zC : Int32) (SC : tSC Z zC) (PC : ¬ zC = (0 : Int32)) (aE : Addr) (SE : tSE Z aE) (aD : Addr) (SD : tSD Z aD) (aM : Addr) (SM : tSM Z aM) (mO : Addr) (MO : tMO Z mO) (p0 : Int32) (p1 : Int32) (p2 : Int32) (p3 : Int32) (p4 : Int32) (p5 : Int32) (eA : Addr) (eK : ClassId) (eL : List Value) (dK : ClassId) (dL : List Value) (h0 : Heap) (O0 : Old Z Z.heap.size h0) (PE1 : Exa Z h0 aE "java/util/ImmutableCollections$ListN") (PE2 : Fld Z h0 aE "java/util/ImmutableCollections$ListN" "elements" "[Ljava/lang/Object;" (.ref eA)) (PE3 : Arv Z h0 eA eK (.object "java/lang/Object") (0 : Int32) eL .null) (PE4 : Fld Z h0 aE "java/util/ImmutableCollections$ListN" "allowNulls" "Z" (.int (0 : Int32))) (PD1 : Exa Z h0 aD "[Ljava/lang/Object;") (PD2 : Arv Z h0 aD dK (.object "java/lang/Object") (0 : Int32) dL .null) (PM1 : Exa Z h0 aM "java/lang/Object") :
    ConS l Z EL (⟨"com/example/quaymark/quaymark/ReviewSignedOffPinLaw", "law", "(IIIIII)Z"⟩ : MethodName) code 18 (some .boolean) room_1 #[(.int p0), (.int p1), (.int p2), (.int p3), (.int p4), (.int p5)] h0 [] (Q_law Z zC aE aD aM mO p0 p1 p2 p3 p4 p5 eA eK eL dK dL h0) := by
  refine ConS.intro (plainFor_of_name pn19) ?_
  intro p e s m below meth c T0 v0 X0 hx hby hml hown0 hnm hret hlk hZ0 e0 hS0 C0 hsl0
  have N0 := Fr.nil Z.heap.size
  refine castGo (g' := mkF m 0 #[.val (.int p0), .val (.int p1), .val (.int p2), .val (.int p3), .val (.int p4), .val (.int p5), .unset, .unset, .unset, .unset, .unset, .unset, .unset, .unset, .unset, .unset, .unset, .unset] []) (by first | rfl | (simp [entryFrame, mkF, argsToLocals, Value.category]; done)) ?_
  show Go _ _ _ _ (T0.setTop (mkF m 0 #[.val (.int p0), .val (.int p1), .val (.int p2), .val (.int p3), .val (.int p4), .val (.int p5), .unset, .unset, .unset, .unset, .unset, .unset, .unset, .unset, .unset, .unset, .unset, .unset] []))
  refine iL X0 hx (hb hby at_0) (q := 1) rfl rfl ?_
  refine g_stS X0 hx hZ0 hown0 hS0 (Nat.zero_le _) (wd0 hw) (wd1 hw) (wd2 hw) (wd3 hw) (by decide) e0 (ConS.back (W := 0) (rm_str l Z a0 hw zC SC PC aE SE aD SD aM SM mO MO p0 h0 O0 ) hZ0 (wd3 hw) (wd2 hw) (by decide) (by decide) (own_EW hw) C0.1 sf0 all0) (by rw [hml]; rfl) (lenOf pd22 rfl) rfl (Nat.le_of_eq rfl) (hb hby at_1) (q := 4) rfl (by decide) (by decide) ?_
  rintro v626 T626 L626 ⟨X626, hS626, hZ626, hown626, R626⟩ Q626
  obtain ⟨r_626, rfl, Nq626, K626q, q626_0, q626_1⟩ := Q626
  have N626 := Fr.app N0 Nq626
  show Go _ _ _ _ (T626.setTop (mkF m 4 #[.val (.int p0), .val (.int p1), .val (.int p2), .val (.int p3), .val (.int p4), .val (.int p5), .unset, .unset, .unset, .unset, .unset, .unset, .unset, .unset, .unset, .unset, .unset, .unset] [(.ref r_626)]))
  refine sAw X626 hx (hb hby at_4) (q := 6) rfl rfl (Ls' := #[.val (.int p0), .val (.int p1), .val (.int p2), .val (.int p3), .val (.int p4), .val (.int p5), .val (.ref r_626), .unset, .unset, .unset, .unset, .unset, .unset, .unset, .unset, .unset, .unset, .unset]) rfl ?_
  refine iL X626 hx (hb hby at_6) (q := 7) rfl rfl ?_
  refine cI X626 hx (hb hby at_7) (q := 8) rfl (z := (1 : Int32)) rfl ?_
  refine g_iand X626 hx (hb hby at_8) (q := 9) rfl rfl ?_
  suffices kk627 : ∀ (T627 : State) (h627 : Heap) (L627 : List Loc) (ov627 : Value) (vw627 : Vm) (nw627 : Nat), ov627.isRef = true → Stand p l e room_1 (s.setVm vw627) m #[.int p0, .int p1, .int p2, .int p3, .int p4, .int p5] below meth c T627 L627 12 24 → T627.heap = h627 → Keep T626.heap h627 [] → Fr Z.heap.size L627 → s.Since vw627 nw627 → nw627 ≤ h627.size → Z.Warmed39 vw627 → vw627.findClass "com/example/quaymark/quaymark/ReviewSignedOffPinLaw" = some m.cls → CHr Z EL s.vm s.heap vw627 h627 → Go p.tables e below (SEnd Z EL s (Q_law Z zC aE aD aM mO p0 p1 p2 p3 p4 p5 eA eK eL dK dL h0) room_1.cells room_1.slots) (T627.setTop (mkF m 20 #[.val (.int p0), .val (.int p1), .val (.int p2), .val (.int p3), .val (.int p4), .val (.int p5), .val (.ref r_626), .unset, .unset, .unset, .unset, .unset, .unset, .unset, .unset, .unset, .unset, .unset] [ov627])) by
    by_cases hc628 : (p3 &&& (1 : Int32)) = (0 : Int32)
    · refine ifY X626 hx (hb hby at_9) (q := 19) (by decide) (by decide) ((if0 _ _).trans (teq hc628).1) ?_
      refine cN X626 hx (hb hby at_19) (q := 20) rfl ?_
      have f634 : CHr Z EL s.vm s.heap T626.vm T626.heap := C0.trans R626
      exact kk627 _ _ _ .null _ _ rfl (X626.more (by decide) (by decide)) rfl (Keep.refl T626.heap []) N626 hS626 (Nat.le_trans (Nat.le_refl _) (Nat.le_refl _)) hZ626 hown626 f634
    · refine ifN X626 hx (hb hby at_9) (q := 12) rfl ((if0 _ _).trans (feq hc628).1) ?_
      refine iL X626 hx (hb hby at_12) (q := 13) rfl rfl ?_
      have f631 : Old Z Z.heap.size T626.heap := O0.keep K626q all0
      have f632 : CHr Z EL s.vm s.heap T626.vm T626.heap := C0.trans R626
      refine g_stS X626 hx hZ626 hown626 hS626 (Nat.le_trans (Nat.le_refl _) (Nat.le_refl _)) (wd0 hw) (wd1 hw) (wd2 hw) (wd3 hw) (by decide) rfl (ConS.back (W := 0) (rm_str l Z a0 hw zC SC PC aE SE aD SD aM SM mO MO p1 T626.heap f631 ) hZ626 (wd3 hw) (wd2 hw) (by decide) (by decide) (own_EW hw) f632.1 sf0 all0) (by rw [hml]; rfl) (lenOf pd22 rfl) rfl (Nat.le_of_eq rfl) (hb hby at_13) (q := 16) rfl (by decide) (by decide) ?_
      rintro v630 T630 L630 ⟨X630, hS630, hZ630, hown630, R630⟩ Q630
      obtain ⟨r_630, rfl, Nq630, K630q, q630_0, q630_1⟩ := Q630
      have N630 := Fr.app N626 Nq630
      show Go _ _ _ _ (T630.setTop (mkF m 16 #[.val (.int p0), .val (.int p1), .val (.int p2), .val (.int p3), .val (.int p4), .val (.int p5), .val (.ref r_626), .unset, .unset, .unset, .unset, .unset, .unset, .unset, .unset, .unset, .unset, .unset] [(.ref r_630)]))
      refine g_goto X630 hx (hb hby at_16) (q := 20) (by decide) (by decide) ?_
      have K635 : Keep T626.heap T630.heap [] := (Keep.refl T626.heap []).trans K630q all0
      have f636 : CHr Z EL s.vm s.heap T630.vm T630.heap := f632.trans R630
      exact kk627 _ _ _ (.ref r_630) _ _ rfl (X630.more (by decide) (by decide)) rfl K635 N630 hS630 (Nat.le_trans (Nat.le_refl _) (Nat.le_refl _)) hZ630 hown630 f636
  intro T627 h627 L627 ov627 vw627 nw627 r627 X627 e627 K627q N627 hS627 hk627 hZ627 hown627 C627
  show Go _ _ _ _ (T627.setTop (mkF m 20 #[.val (.int p0), .val (.int p1), .val (.int p2), .val (.int p3), .val (.int p4), .val (.int p5), .val (.ref r_626), .unset, .unset, .unset, .unset, .unset, .unset, .unset, .unset, .unset, .unset, .unset] [ov627]))
  refine sAw X627 hx (hb hby at_20) (q := 22) rfl r627 (Ls' := #[.val (.int p0), .val (.int p1), .val (.int p2), .val (.int p3), .val (.int p4), .val (.int p5), .val (.ref r_626), .val ov627, .unset, .unset, .unset, .unset, .unset, .unset, .unset, .unset, .unset, .unset]) (by rcases ref_cases r627 with q | ⟨_, q⟩ <;> (rw [q]; rfl)) ?_
  refine iL X627 hx (hb hby at_22) (q := 23) rfl rfl ?_
  refine cI X627 hx (hb hby at_23) (q := 24) rfl (z := (2 : Int32)) rfl ?_
  refine g_iand X627 hx (hb hby at_24) (q := 25) rfl rfl ?_
  suffices kk637 : ∀ (T637 : State) (h637 : Heap) (L637 : List Loc) (ov637 : Value) (vw637 : Vm) (nw637 : Nat), ov637.isRef = true → Stand p l e room_1 (s.setVm vw637) m #[.int p0, .int p1, .int p2, .int p3, .int p4, .int p5] below meth c T637 L637 25 50 → T637.heap = h637 → Keep h627 h637 [] → Fr Z.heap.size L637 → s.Since vw637 nw637 → nw637 ≤ h637.size → Z.Warmed39 vw637 → vw637.findClass "com/example/quaymark/quaymark/ReviewSignedOffPinLaw" = some m.cls → CHr Z EL s.vm s.heap vw637 h637 → Go p.tables e below (SEnd Z EL s (Q_law Z zC aE aD aM mO p0 p1 p2 p3 p4 p5 eA eK eL dK dL h0) room_1.cells room_1.slots) (T637.setTop (mkF m 53 #[.val (.int p0), .val (.int p1), .val (.int p2), .val (.int p3), .val (.int p4), .val (.int p5), .val (.ref r_626), .val ov627, .unset, .unset, .unset, .unset, .unset, .unset, .unset, .unset, .unset, .unset] [ov637])) by
    by_cases hc638 : (p3 &&& (2 : Int32)) = (0 : Int32)
    · refine ifY X627 hx (hb hby at_25) (q := 52) (by decide) (by decide) ((if0 _ _).trans (teq hc638).1) ?_
      refine cN X627 hx (hb hby at_52) (q := 53) rfl ?_
      exact kk637 _ _ _ .null _ _ rfl (X627.more (by decide) (by decide)) e627 (Keep.refl h627 []) N627 hS627 (Nat.le_trans hk627 (Nat.le_refl _)) hZ627 hown627 C627
    · refine ifN X627 hx (hb hby at_25) (q := 28) rfl ((if0 _ _).trans (feq hc638).1) ?_
      refine g_new X627 hx hZ627 hown627 (wd166 hw) (wd167 hw) (wd168 hw) (by decide) (by decide) e627 (hb hby at_28) (q := 31) rfl ?_
      intro T640 h640 b640 g640 X640 e640 E640 A640 D640
      have sf641 : Safe Z EL vw627 h627 b640 := Safe.new (Nat.le_of_eq g640.symm)
      have F640_174 := D640 (Or.inr (wd174 hw)) (ty := (.object "java/lang/String")) (by decide)
      have F640_176 := D640 (Or.inr (wd176 hw)) (ty := (.object "java/lang/String")) (by decide)
      refine g_dup X640 hx (hb hby at_31) (q := 32) rfl rfl ?_
      refine iL X640 hx (hb hby at_32) (q := 33) rfl rfl ?_
      refine bI X640 hx (hb hby at_33) (q := 35) rfl (z := (8 : Int32)) rfl ?_
      refine g_iushr X640 hx (hb hby at_35) (q := 36) rfl rfl ?_
      have f643 : Old Z Z.heap.size T626.heap := O0.keep K626q all0
      have f644 : Old Z Z.heap.size h627 := f643.keep K627q all0
      have f645 : Old Z Z.heap.size h640 := f644.ext E640
      have f646 : CHr Z EL s.vm s.heap vw627 h640 := C627.trans (CHr.ext E640 C627.1)
      have le647 : (h627).size ≤ (h640).size := E640.1
      refine g_stS X640 hx hZ627 hown627 hS627 (Nat.le_trans hk627 le647) (wd0 hw) (wd1 hw) (wd2 hw) (wd3 hw) (by decide) e640 (ConS.back (W := 2) (rm_str l Z a0 hw zC SC PC aE SE aD SD aM SM mO MO ((p1.toUInt32 >>> ((8 : Int32) &&& 31).toUInt32).toInt32) h640 f645 ) hZ627 (wd3 hw) (wd2 hw) (by decide) (by decide) (own_EW hw) f646.1 sf0 all0) (by rw [hml]; rfl) (lenOf pd22 rfl) rfl (Nat.le_of_eq rfl) (hb hby at_36) (q := 39) rfl (by decide) (by decide) ?_
      rintro v642 T642 L642 ⟨X642, hS642, hZ642, hown642, R642⟩ Q642
      obtain ⟨r_642, rfl, Nq642, K642q, q642_0, q642_1⟩ := Q642
      have N642 := Fr.app N627 Nq642
      show Go _ _ _ _ (T642.setTop (mkF m 39 #[.val (.int p0), .val (.int p1), .val (.int p2), .val (.int p3), .val (.int p4), .val (.int p5), .val (.ref r_626), .val ov627, .unset, .unset, .unset, .unset, .unset, .unset, .unset, .unset, .unset, .unset] [(.ref r_642), (.ref b640), (.ref b640)]))
      refine iL X642 hx (hb hby at_39) (q := 40) rfl rfl ?_
      refine bI X642 hx (hb hby at_40) (q := 42) rfl (z := (8 : Int32)) rfl ?_
      refine g_iushr X642 hx (hb hby at_42) (q := 43) rfl rfl ?_
      have f649 : Old Z Z.heap.size T642.heap := f645.keep K642q all0
      have f650 : CHr Z EL s.vm s.heap T642.vm T642.heap := f646.trans R642
      refine g_stS X642 hx hZ642 hown642 hS642 (Nat.le_trans (Nat.le_refl _) (Nat.le_refl _)) (wd0 hw) (wd1 hw) (wd2 hw) (wd3 hw) (by decide) rfl (ConS.back (W := 3) (rm_str l Z a0 hw zC SC PC aE SE aD SD aM SM mO MO ((p2.toUInt32 >>> ((8 : Int32) &&& 31).toUInt32).toInt32) T642.heap f649 ) hZ642 (wd3 hw) (wd2 hw) (by decide) (by decide) (own_EW hw) f650.1 sf0 all0) (by rw [hml]; rfl) (lenOf pd22 rfl) rfl (Nat.le_of_eq rfl) (hb hby at_43) (q := 46) rfl (by decide) (by decide) ?_
      rintro v648 T648 L648 ⟨X648, hS648, hZ648, hown648, R648⟩ Q648
      obtain ⟨r_648, rfl, Nq648, K648q, q648_0, q648_1⟩ := Q648
      have N648 := Fr.app N642 Nq648
      show Go _ _ _ _ (T648.setTop (mkF m 46 #[.val (.int p0), .val (.int p1), .val (.int p2), .val (.int p3), .val (.int p4), .val (.int p5), .val (.ref r_626), .val ov627, .unset, .unset, .unset, .unset, .unset, .unset, .unset, .unset, .unset, .unset] [(.ref r_648), (.ref r_642), (.ref b640), (.ref b640)]))
      have f659 : Exa Z T642.heap b640 "com/example/quaymark/quaymark/Review$Withdrawal" := A640.keep K642q
      have f660 : Exa Z T648.heap b640 "com/example/quaymark/quaymark/Review$Withdrawal" := f659.keep K648q
      have f661 : Fld Z T642.heap b640 "com/example/quaymark/quaymark/Review$Withdrawal" "reason" "Ljava/lang/String;" .null := F640_174.keep K642q nin0
      have f662 : Fld Z T648.heap b640 "com/example/quaymark/quaymark/Review$Withdrawal" "reason" "Ljava/lang/String;" .null := f661.keep K648q nin0
      have f663 : Fld Z T642.heap b640 "com/example/quaymark/quaymark/Review$Withdrawal" "by" "Ljava/lang/String;" .null := F640_176.keep K642q nin0
      have f664 : Fld Z T648.heap b640 "com/example/quaymark/quaymark/Review$Withdrawal" "by" "Ljava/lang/String;" .null := f663.keep K648q nin0
      have gz665 : Z.heap.size ≤ b640 := Nat.le_trans f644.2.1 (Nat.le_of_eq g640.symm)
      have f666 : Old Z Z.heap.size T648.heap := f649.keep K648q all0
      have f667 : Safe Z EL vw627 h640 b640 := Safe.ext E640 C627.1 sf641
      have f668 : Safe Z EL T642.vm T642.heap b640 := R642.safe (Nat.lt_of_lt_of_le A640.lt (Nat.le_refl _)) f667
      have le669 : (h640).size ≤ (T642.heap).size := K642q.1
      have f670 : Safe Z EL T648.vm T648.heap b640 := R648.safe (Nat.lt_of_lt_of_le A640.lt le669) f668
      refine g_sp X648 hx hZ648 hown648 (wd169 hw) (wd170 hw) (wd171 hw) rfl (by decide) rfl (Con.back (W := 1) (rm_wdinit l Z a0 hw zC SC PC aE SE aD SD aM SM mO MO b640 r_642 r_648 T648.heap f666 f660 f662 f664 gz665) hZ648 (wd171 hw) (wd168 hw) (by decide) (by decide)) (by rw [hml]; rfl) (lenOf pd23 rfl) rfl (Nat.le_of_eq rfl) (hb hby at_46) (q := 49) rfl (by decide) (by decide) ?_
      intro v658 T658 L658 X658 Q658
      obtain ⟨rfl, Nq658, K658q, q658_0⟩ := Q658
      have N658 := Fr.app N648 Nq658
      show Go _ _ _ _ (T658.setTop (mkF m 49 #[.val (.int p0), .val (.int p1), .val (.int p2), .val (.int p3), .val (.int p4), .val (.int p5), .val (.ref r_626), .val ov627, .unset, .unset, .unset, .unset, .unset, .unset, .unset, .unset, .unset, .unset] [(.ref b640)]))
      refine g_goto X658 hx (hb hby at_49) (q := 53) (by decide) (by decide) ?_
      have K672 : Keep h627 h640 [] := (Keep.refl h627 []).ext E640
      have K673 : Keep h627 T642.heap [] := K672.trans K642q all0
      have K674 : Keep h627 T648.heap [] := K673.trans K648q all0
      have K675 : Keep h627 T658.heap [] := K674.trans K658q (allS (Or.inr (Nat.le_trans (Nat.le_refl _) (Nat.le_of_eq g640.symm))) all0)
      have le676 : (T648.heap).size ≤ (T658.heap).size := K658q.1
      have f677 : CHr Z EL s.vm s.heap T648.vm T648.heap := f650.trans R648
      have f678 : CHr Z EL s.vm s.heap T648.vm T658.heap := f677.trans (CHr.keep K658q (sfS f670 sf0) f677.1)
      exact kk637 _ _ _ (.ref b640) _ _ rfl (X658.more (by decide) (by decide)) rfl K675 N658 hS648 (Nat.le_trans (Nat.le_refl _) le676) hZ648 hown648 f678
  intro T637 h637 L637 ov637 vw637 nw637 r637 X637 e637 K637q N637 hS637 hk637 hZ637 hown637 C637
  show Go _ _ _ _ (T637.setTop (mkF m 53 #[.val (.int p0), .val (.int p1), .val (.int p2), .val (.int p3), .val (.int p4), .val (.int p5), .val (.ref r_626), .val ov627, .unset, .unset, .unset, .unset, .unset, .unset, .unset, .unset, .unset, .unset] [ov637]))
  refine sAw X637 hx (hb hby at_53) (q := 55) rfl r637 (Ls' := #[.val (.int p0), .val (.int p1), .val (.int p2), .val (.int p3), .val (.int p4), .val (.int p5), .val (.ref r_626), .val ov627, .val ov637, .unset, .unset, .unset, .unset, .unset, .unset, .unset, .unset, .unset]) (by rcases ref_cases r637 with q | ⟨_, q⟩ <;> (rw [q]; rfl)) ?_
  refine iL X637 hx (hb hby at_55) (q := 56) rfl rfl ?_
  refine cI X637 hx (hb hby at_56) (q := 57) rfl (z := (4 : Int32)) rfl ?_
  refine g_iand X637 hx (hb hby at_57) (q := 58) rfl rfl ?_
  by_cases hc679 : (p3 &&& (4 : Int32)) = (0 : Int32)
  · refine ifY X637 hx (hb hby at_58) (q := 65) (by decide) (by decide) ((if0 _ _).trans (teq hc679).1) ?_
    refine iL X637 hx (hb hby at_65) (q := 66) rfl rfl ?_
    have f681 : Old Z Z.heap.size T626.heap := O0.keep K626q all0
    have f682 : Old Z Z.heap.size h627 := f681.keep K627q all0
    have f683 : Old Z Z.heap.size h637 := f682.keep K637q all0
    refine g_stS X637 hx hZ637 hown637 hS637 (Nat.le_trans hk637 (Nat.le_refl _)) (wd0 hw) (wd1 hw) (wd2 hw) (wd3 hw) (by decide) e637 (ConS.back (W := 0) (rm_str l Z a0 hw zC SC PC aE SE aD SD aM SM mO MO p2 h637 f683 ) hZ637 (wd3 hw) (wd2 hw) (by decide) (by decide) (own_EW hw) C637.1 sf0 all0) (by rw [hml]; rfl) (lenOf pd22 rfl) rfl (Nat.le_of_eq rfl) (hb hby at_66) (q := 69) rfl (by decide) (by decide) ?_
    rintro v680 T680 L680 ⟨X680, hS680, hZ680, hown680, R680⟩ Q680
    obtain ⟨r_680, rfl, Nq680, K680q, q680_0, q680_1⟩ := Q680
    have N680 := Fr.app N637 Nq680
    show Go _ _ _ _ (T680.setTop (mkF m 69 #[.val (.int p0), .val (.int p1), .val (.int p2), .val (.int p3), .val (.int p4), .val (.int p5), .val (.ref r_626), .val ov627, .val ov637, .unset, .unset, .unset, .unset, .unset, .unset, .unset, .unset, .unset] [(.ref r_680)]))
    refine sAw X680 hx (hb hby at_69) (q := 71) rfl rfl (Ls' := #[.val (.int p0), .val (.int p1), .val (.int p2), .val (.int p3), .val (.int p4), .val (.int p5), .val (.ref r_626), .val ov627, .val ov637, .val (.ref r_680), .unset, .unset, .unset, .unset, .unset, .unset, .unset, .unset]) rfl ?_
    refine iL X680 hx (hb hby at_71) (q := 72) rfl rfl ?_
    refine cI X680 hx (hb hby at_72) (q := 73) rfl (z := (3 : Int32)) rfl ?_
    refine g_iushr X680 hx (hb hby at_73) (q := 74) rfl rfl ?_
    refine cI X680 hx (hb hby at_74) (q := 75) rfl (z := (3 : Int32)) rfl ?_
    refine g_irem X680 hx (hb hby at_75) (q := 76) rfl (by decide) rfl ?_
    rcases (own_c _ : (((p3.toUInt32 >>> ((3 : Int32) &&& 31).toUInt32).toInt32) % (3 : Int32)) = (0 : Int32) ∨ (((p3.toUInt32 >>> ((3 : Int32) &&& 31).toUInt32).toInt32) % (3 : Int32)) = (1 : Int32) ∨ (((p3.toUInt32 >>> ((3 : Int32) &&& 31).toUInt32).toInt32) % (3 : Int32)) = (2 : Int32)) with hk684 | hk685 | hk686
    · rw [hk684]
      show Go _ _ _ _ (T680.setTop (mkF m 76 #[.val (.int p0), .val (.int p1), .val (.int p2), .val (.int p3), .val (.int p4), .val (.int p5), .val (.ref r_626), .val ov627, .val ov637, .val (.ref r_680), .unset, .unset, .unset, .unset, .unset, .unset, .unset, .unset] [(.int (0 : Int32))]))
      refine sIw X680 hx (hb hby at_76) (q := 78) rfl (Ls' := #[.val (.int p0), .val (.int p1), .val (.int p2), .val (.int p3), .val (.int p4), .val (.int p5), .val (.ref r_626), .val ov627, .val ov637, .val (.ref r_680), .val (.int (0 : Int32)), .unset, .unset, .unset, .unset, .unset, .unset, .unset]) rfl ?_
      refine g_new X680 hx hZ680 hown680 (wd26 hw) (wd27 hw) (wd28 hw) (by decide) (by decide) rfl (hb hby at_78) (q := 81) rfl ?_
      intro T687 h687 b687 g687 X687 e687 E687 A687 D687
      have sf688 : Safe Z EL T680.vm T680.heap b687 := Safe.new (Nat.le_of_eq g687.symm)
      have F687_39 := D687 (Or.inr (wd39 hw)) (ty := .int) (by decide)
      have F687_41 := D687 (Or.inr (wd41 hw)) (ty := (.object "java/lang/String")) (by decide)
      have F687_43 := D687 (Or.inr (wd43 hw)) (ty := (.object "java/lang/String")) (by decide)
      refine g_dup X687 hx (hb hby at_81) (q := 82) rfl rfl ?_
      refine iLw X687 hx (hb hby at_82) (q := 84) rfl rfl ?_
      refine iLw X687 hx (hb hby at_84) (q := 86) rfl rfl ?_
      have f690 : Old Z Z.heap.size T680.heap := f683.keep K680q all0
      have f691 : Old Z Z.heap.size h687 := f690.ext E687
      have f692 : CHr Z EL s.vm s.heap T680.vm T680.heap := C637.trans R680
      have f693 : CHr Z EL s.vm s.heap T680.vm h687 := f692.trans (CHr.ext E687 f692.1)
      have le694 : (T680.heap).size ≤ (h687).size := E687.1
      refine g_stS X687 hx hZ680 hown680 hS680 (Nat.le_trans (Nat.le_refl _) le694) (wd0 hw) (wd1 hw) (wd2 hw) (wd3 hw) (by decide) e687 (ConS.back (W := 3) (rm_str l Z a0 hw zC SC PC aE SE aD SD aM SM mO MO p5 h687 f691 ) hZ680 (wd3 hw) (wd2 hw) (by decide) (by decide) (own_EW hw) f693.1 sf0 all0) (by rw [hml]; rfl) (lenOf pd22 rfl) rfl (Nat.le_of_eq rfl) (hb hby at_86) (q := 89) rfl (by decide) (by decide) ?_
      rintro v689 T689 L689 ⟨X689, hS689, hZ689, hown689, R689⟩ Q689
      obtain ⟨r_689, rfl, Nq689, K689q, q689_0, q689_1⟩ := Q689
      have N689 := Fr.app N680 Nq689
      show Go _ _ _ _ (T689.setTop (mkF m 89 #[.val (.int p0), .val (.int p1), .val (.int p2), .val (.int p3), .val (.int p4), .val (.int p5), .val (.ref r_626), .val ov627, .val ov637, .val (.ref r_680), .val (.int (0 : Int32)), .unset, .unset, .unset, .unset, .unset, .unset, .unset] [(.ref r_689), (.int p4), (.ref b687), (.ref b687)]))
      refine iL X689 hx (hb hby at_89) (q := 90) rfl rfl ?_
      refine bI X689 hx (hb hby at_90) (q := 92) rfl (z := (16 : Int32)) rfl ?_
      refine g_iushr X689 hx (hb hby at_92) (q := 93) rfl rfl ?_
      have f696 : Old Z Z.heap.size T689.heap := f691.keep K689q all0
      have f697 : CHr Z EL s.vm s.heap T689.vm T689.heap := f693.trans R689
      refine g_stS X689 hx hZ689 hown689 hS689 (Nat.le_trans (Nat.le_refl _) (Nat.le_refl _)) (wd0 hw) (wd1 hw) (wd2 hw) (wd3 hw) (by decide) rfl (ConS.back (W := 4) (rm_str l Z a0 hw zC SC PC aE SE aD SD aM SM mO MO ((p0.toUInt32 >>> ((16 : Int32) &&& 31).toUInt32).toInt32) T689.heap f696 ) hZ689 (wd3 hw) (wd2 hw) (by decide) (by decide) (own_EW hw) f697.1 sf0 all0) (by rw [hml]; rfl) (lenOf pd22 rfl) rfl (Nat.le_of_eq rfl) (hb hby at_93) (q := 96) rfl (by decide) (by decide) ?_
      rintro v695 T695 L695 ⟨X695, hS695, hZ695, hown695, R695⟩ Q695
      obtain ⟨r_695, rfl, Nq695, K695q, q695_0, q695_1⟩ := Q695
      have N695 := Fr.app N689 Nq695
      show Go _ _ _ _ (T695.setTop (mkF m 96 #[.val (.int p0), .val (.int p1), .val (.int p2), .val (.int p3), .val (.int p4), .val (.int p5), .val (.ref r_626), .val ov627, .val ov637, .val (.ref r_680), .val (.int (0 : Int32)), .unset, .unset, .unset, .unset, .unset, .unset, .unset] [(.ref r_695), (.ref r_689), (.int p4), (.ref b687), (.ref b687)]))
      have f708 : Exa Z T689.heap b687 "com/example/quaymark/quaymark/Review$LeftOut" := A687.keep K689q
      have f709 : Exa Z T695.heap b687 "com/example/quaymark/quaymark/Review$LeftOut" := f708.keep K695q
      have f710 : Fld Z T689.heap b687 "com/example/quaymark/quaymark/Review$LeftOut" "line" "I" (.int (0 : Int32)) := F687_39.keep K689q nin0
      have f711 : Fld Z T695.heap b687 "com/example/quaymark/quaymark/Review$LeftOut" "line" "I" (.int (0 : Int32)) := f710.keep K695q nin0
      have f712 : Fld Z T689.heap b687 "com/example/quaymark/quaymark/Review$LeftOut" "reason" "Ljava/lang/String;" .null := F687_41.keep K689q nin0
      have f713 : Fld Z T695.heap b687 "com/example/quaymark/quaymark/Review$LeftOut" "reason" "Ljava/lang/String;" .null := f712.keep K695q nin0
      have f714 : Fld Z T689.heap b687 "com/example/quaymark/quaymark/Review$LeftOut" "by" "Ljava/lang/String;" .null := F687_43.keep K689q nin0
      have f715 : Fld Z T695.heap b687 "com/example/quaymark/quaymark/Review$LeftOut" "by" "Ljava/lang/String;" .null := f714.keep K695q nin0
      have gz716 : Z.heap.size ≤ b687 := Nat.le_trans f690.2.1 (Nat.le_of_eq g687.symm)
      have f717 : Old Z Z.heap.size T695.heap := f696.keep K695q all0
      have f718 : Safe Z EL T680.vm h687 b687 := Safe.ext E687 f692.1 sf688
      have f719 : Safe Z EL T689.vm T689.heap b687 := R689.safe (Nat.lt_of_lt_of_le A687.lt (Nat.le_refl _)) f718
      have le720 : (h687).size ≤ (T689.heap).size := K689q.1
      have f721 : Safe Z EL T695.vm T695.heap b687 := R695.safe (Nat.lt_of_lt_of_le A687.lt le720) f719
      refine g_sp X695 hx hZ695 hown695 (wd29 hw) (wd30 hw) (wd31 hw) rfl (by decide) rfl (Con.back (W := 1) (rm_loinit l Z a0 hw zC SC PC aE SE aD SD aM SM mO MO b687 p4 r_689 r_695 T695.heap f717 f709 f711 f713 f715 gz716) hZ695 (wd31 hw) (wd28 hw) (by decide) (by decide)) (by rw [hml]; rfl) (lenOf pd24 rfl) rfl (Nat.le_of_eq rfl) (hb hby at_96) (q := 99) rfl (by decide) (by decide) ?_
      intro v707 T707 L707 X707 Q707
      obtain ⟨rfl, Nq707, K707q, q707_0⟩ := Q707
      have N707 := Fr.app N695 Nq707
      show Go _ _ _ _ (T707.setTop (mkF m 99 #[.val (.int p0), .val (.int p1), .val (.int p2), .val (.int p3), .val (.int p4), .val (.int p5), .val (.ref r_626), .val ov627, .val ov637, .val (.ref r_680), .val (.int (0 : Int32)), .unset, .unset, .unset, .unset, .unset, .unset, .unset] [(.ref b687)]))
      refine sAw X707 hx (hb hby at_99) (q := 101) rfl rfl (Ls' := #[.val (.int p0), .val (.int p1), .val (.int p2), .val (.int p3), .val (.int p4), .val (.int p5), .val (.ref r_626), .val ov627, .val ov637, .val (.ref r_680), .val (.int (0 : Int32)), .val (.ref b687), .unset, .unset, .unset, .unset, .unset, .unset]) rfl ?_
      refine g_new X707 hx hZ695 hown695 (wd26 hw) (wd27 hw) (wd28 hw) (by decide) (by decide) rfl (hb hby at_101) (q := 104) rfl ?_
      intro T722 h722 b722 g722 X722 e722 E722 A722 D722
      have sf723 : Safe Z EL T695.vm T707.heap b722 := Safe.new (Nat.le_of_eq g722.symm)
      have F722_39 := D722 (Or.inr (wd39 hw)) (ty := .int) (by decide)
      have F722_41 := D722 (Or.inr (wd41 hw)) (ty := (.object "java/lang/String")) (by decide)
      have F722_43 := D722 (Or.inr (wd43 hw)) (ty := (.object "java/lang/String")) (by decide)
      refine g_dup X722 hx (hb hby at_104) (q := 105) rfl rfl ?_
      refine iLw X722 hx (hb hby at_105) (q := 107) rfl rfl ?_
      refine iLw X722 hx (hb hby at_107) (q := 109) rfl rfl ?_
      have f725 : Old Z Z.heap.size T707.heap := f717.keep K707q (allS gz716 all0)
      have f726 : Old Z Z.heap.size h722 := f725.ext E722
      have f727 : CHr Z EL s.vm s.heap T695.vm T695.heap := f697.trans R695
      have f728 : CHr Z EL s.vm s.heap T695.vm T707.heap := f727.trans (CHr.keep K707q (sfS f721 sf0) f727.1)
      have f729 : CHr Z EL s.vm s.heap T695.vm h722 := f728.trans (CHr.ext E722 f728.1)
      have le730 : (T695.heap).size ≤ (T707.heap).size := K707q.1
      have le731 : (T695.heap).size ≤ (h722).size := (Nat.le_trans le730 E722.1)
      refine g_stS X722 hx hZ695 hown695 hS695 (Nat.le_trans (Nat.le_refl _) le731) (wd0 hw) (wd1 hw) (wd2 hw) (wd3 hw) (by decide) e722 (ConS.back (W := 3) (rm_str l Z a0 hw zC SC PC aE SE aD SD aM SM mO MO p4 h722 f726 ) hZ695 (wd3 hw) (wd2 hw) (by decide) (by decide) (own_EW hw) f729.1 sf0 all0) (by rw [hml]; rfl) (lenOf pd22 rfl) rfl (Nat.le_of_eq rfl) (hb hby at_109) (q := 112) rfl (by decide) (by decide) ?_
      rintro v724 T724 L724 ⟨X724, hS724, hZ724, hown724, R724⟩ Q724
      obtain ⟨r_724, rfl, Nq724, K724q, q724_0, q724_1⟩ := Q724
      have N724 := Fr.app N707 Nq724
      show Go _ _ _ _ (T724.setTop (mkF m 112 #[.val (.int p0), .val (.int p1), .val (.int p2), .val (.int p3), .val (.int p4), .val (.int p5), .val (.ref r_626), .val ov627, .val ov637, .val (.ref r_680), .val (.int (0 : Int32)), .val (.ref b687), .unset, .unset, .unset, .unset, .unset, .unset] [(.ref r_724), (.int p5), (.ref b722), (.ref b722)]))
      refine aLw X724 hx (hb hby at_112) (q := 114) rfl rfl rfl ?_
      have f738 : Exa Z T724.heap b722 "com/example/quaymark/quaymark/Review$LeftOut" := A722.keep K724q
      have f739 : Fld Z T724.heap b722 "com/example/quaymark/quaymark/Review$LeftOut" "line" "I" (.int (0 : Int32)) := F722_39.keep K724q nin0
      have f740 : Fld Z T724.heap b722 "com/example/quaymark/quaymark/Review$LeftOut" "reason" "Ljava/lang/String;" .null := F722_41.keep K724q nin0
      have f741 : Fld Z T724.heap b722 "com/example/quaymark/quaymark/Review$LeftOut" "by" "Ljava/lang/String;" .null := F722_43.keep K724q nin0
      have gz742 : Z.heap.size ≤ b722 := Nat.le_trans f725.2.1 (Nat.le_of_eq g722.symm)
      have f743 : Old Z Z.heap.size T724.heap := f726.keep K724q all0
      have f744 : Safe Z EL T695.vm h722 b722 := Safe.ext E722 f728.1 sf723
      have f745 : Safe Z EL T724.vm T724.heap b722 := R724.safe (Nat.lt_of_lt_of_le A722.lt (Nat.le_refl _)) f744
      refine g_sp X724 hx hZ724 hown724 (wd29 hw) (wd30 hw) (wd31 hw) rfl (by decide) rfl (Con.back (W := 1) (rm_loinit l Z a0 hw zC SC PC aE SE aD SD aM SM mO MO b722 p5 r_724 r_626 T724.heap f743 f738 f739 f740 f741 gz742) hZ724 (wd31 hw) (wd28 hw) (by decide) (by decide)) (by rw [hml]; rfl) (lenOf pd24 rfl) rfl (Nat.le_of_eq rfl) (hb hby at_114) (q := 117) rfl (by decide) (by decide) ?_
      intro v737 T737 L737 X737 Q737
      obtain ⟨rfl, Nq737, K737q, q737_0⟩ := Q737
      have N737 := Fr.app N724 Nq737
      show Go _ _ _ _ (T737.setTop (mkF m 117 #[.val (.int p0), .val (.int p1), .val (.int p2), .val (.int p3), .val (.int p4), .val (.int p5), .val (.ref r_626), .val ov627, .val ov637, .val (.ref r_680), .val (.int (0 : Int32)), .val (.ref b687), .unset, .unset, .unset, .unset, .unset, .unset] [(.ref b722)]))
      refine sAw X737 hx (hb hby at_117) (q := 119) rfl rfl (Ls' := #[.val (.int p0), .val (.int p1), .val (.int p2), .val (.int p3), .val (.int p4), .val (.int p5), .val (.ref r_626), .val ov627, .val ov637, .val (.ref r_680), .val (.int (0 : Int32)), .val (.ref b687), .val (.ref b722), .unset, .unset, .unset, .unset, .unset]) rfl ?_
      refine g_new X737 hx hZ724 hown724 (wd44 hw) (wd45 hw) (wd46 hw) (by decide) (by decide) rfl (hb hby at_119) (q := 122) rfl ?_
      intro T746 h746 b746 g746 X746 e746 E746 A746 D746
      have sf747 : Safe Z EL T724.vm T737.heap b746 := Safe.new (Nat.le_of_eq g746.symm)
      have F746_64 := D746 (Or.inl (wd64 hw)) (ty := .int) (by decide)
      have F746_67 := D746 (Or.inl (wd67 hw)) (ty := (.array (.object "java/lang/Object"))) (by decide)
      have F746_99 := D746 (Or.inl (wd99 hw)) (ty := .int) (by decide)
      refine g_dup X746 hx (hb hby at_122) (q := 123) rfl rfl ?_
      have f752 : Old Z Z.heap.size T737.heap := f743.keep K737q (allS gz742 all0)
      have gz751 : Z.heap.size ≤ b746 := Nat.le_trans f752.2.1 (Nat.le_of_eq g746.symm)
      have f753 : Old Z Z.heap.size h746 := f752.ext E746
      have f754 : CHr Z EL s.vm s.heap T724.vm T724.heap := f729.trans R724
      have f755 : CHr Z EL s.vm s.heap T724.vm T737.heap := f754.trans (CHr.keep K737q (sfS f745 sf0) f754.1)
      have f756 : Safe Z EL T724.vm h746 b746 := Safe.ext E746 f755.1 sf747
      refine g_sp X746 hx hZ724 hown724 (wd47 hw) (wd48 hw) (wd49 hw) rfl (by decide) e746 (Con.back (W := 1) (rm_alinit l Z a0 hw zC SC PC aE SE aD SD aM SM mO MO b746 h746 f753 A746 F746_64 gz751 F746_99 F746_67) hZ724 (wd49 hw) (wd46 hw) (by decide) (by decide)) (by rw [hml]; rfl) (lenOf pd1 rfl) rfl (Nat.le_of_eq rfl) (hb hby at_123) (q := 126) rfl (by decide) (by decide) ?_
      intro v750 T750 L750 X750 Q750
      obtain ⟨rfl, Nq750, K750q, q750_0, q750_1, q750_2, q750_3⟩ := Q750
      have N750 := Fr.app N737 Nq750
      show Go _ _ _ _ (T750.setTop (mkF m 126 #[.val (.int p0), .val (.int p1), .val (.int p2), .val (.int p3), .val (.int p4), .val (.int p5), .val (.ref r_626), .val ov627, .val ov637, .val (.ref r_680), .val (.int (0 : Int32)), .val (.ref b687), .val (.ref b722), .unset, .unset, .unset, .unset, .unset] [(.ref b746)]))
      refine sAw X750 hx (hb hby at_126) (q := 128) rfl rfl (Ls' := #[.val (.int p0), .val (.int p1), .val (.int p2), .val (.int p3), .val (.int p4), .val (.int p5), .val (.ref r_626), .val ov627, .val ov637, .val (.ref r_680), .val (.int (0 : Int32)), .val (.ref b687), .val (.ref b722), .val (.ref b746), .unset, .unset, .unset, .unset]) rfl ?_
      refine iLw X750 hx (hb hby at_128) (q := 130) rfl rfl ?_
      refine cI X750 hx (hb hby at_130) (q := 131) rfl (z := (1 : Int32)) rfl ?_
      refine icY X750 hx (hb hby at_131) (q := 144) (by decide) (by decide) (by decide) ?_
      refine iLw X750 hx (hb hby at_144) (q := 146) rfl rfl ?_
      refine cI X750 hx (hb hby at_146) (q := 147) rfl (z := (2 : Int32)) rfl ?_
      refine icY X750 hx (hb hby at_147) (q := 160) (by decide) (by decide) (by decide) ?_
      refine g_new X750 hx hZ724 hown724 (wd68 hw) (wd69 hw) (wd70 hw) (by decide) (by decide) rfl (hb hby at_160) (q := 163) rfl ?_
      intro T757 h757 b757 g757 X757 e757 E757 A757 D757
      have sf758 : Safe Z EL T724.vm T750.heap b757 := Safe.new (Nat.le_of_eq g757.symm)
      have F757_105 := D757 (Or.inr (wd105 hw)) (ty := (.object "java/lang/String")) (by decide)
      have F757_107 := D757 (Or.inr (wd107 hw)) (ty := (.object "java/util/List")) (by decide)
      have F757_109 := D757 (Or.inr (wd109 hw)) (ty := (.object "java/lang/String")) (by decide)
      have F757_111 := D757 (Or.inr (wd111 hw)) (ty := (.object "com/example/quaymark/quaymark/Review$Withdrawal")) (by decide)
      refine g_dup X757 hx (hb hby at_163) (q := 164) rfl rfl ?_
      refine aLw X757 hx (hb hby at_164) (q := 166) rfl rfl rfl ?_
      refine aLw X757 hx (hb hby at_166) (q := 168) rfl rfl rfl ?_
      refine aLw X757 hx (hb hby at_168) (q := 170) rfl rfl r627 ?_
      refine aLw X757 hx (hb hby at_170) (q := 172) rfl rfl r637 ?_
      have f767 : Old Z Z.heap.size T750.heap := f753.keep K750q (allS gz751 all0)
      have gz766 : Z.heap.size ≤ b757 := Nat.le_trans f767.2.1 (Nat.le_of_eq g757.symm)
      have f768 : Exa Z h757 b746 "java/util/ArrayList" := q750_0.ext E757
      have f769 : Fld Z h757 b746 "java/util/ArrayList" "size" "I" (.int (0 : Int32)) := q750_2.ext E757
      have f770 : Old Z Z.heap.size h757 := f767.ext E757
      have f771 : CHr Z EL s.vm s.heap T724.vm h746 := f755.trans (CHr.ext E746 f755.1)
      have f772 : CHr Z EL s.vm s.heap T724.vm T750.heap := f771.trans (CHr.keep K750q (sfS f756 sf0) f771.1)
      have f773 : Safe Z EL T724.vm h757 b757 := Safe.ext E757 f772.1 sf758
      refine g_sp X757 hx hZ724 hown724 (wd71 hw) (wd72 hw) (wd73 hw) rfl (by decide) e757 (Con.back (W := 1) (rm_rv0 l Z a0 hw zC SC PC aE SE aD SD aM SM mO MO b757 r_626 ov627 ov637 b746 h757 f770 A757 F757_105 F757_107 F757_109 F757_111 gz766 r627 r637 f768 f769) hZ724 (wd73 hw) (wd70 hw) (by decide) (by decide)) (by rw [hml]; rfl) (lenOf pd21 rfl) rfl (Nat.le_of_eq rfl) (hb hby at_172) (q := 175) rfl (by decide) (by decide) ?_
      intro v765 T765 L765 X765 Q765
      obtain ⟨rfl, Nq765, K765q, q765_0, q765_1, q765_2, q765_3, q765_4⟩ := Q765
      have N765 := Fr.app N750 Nq765
      show Go _ _ _ _ (T765.setTop (mkF m 175 #[.val (.int p0), .val (.int p1), .val (.int p2), .val (.int p3), .val (.int p4), .val (.int p5), .val (.ref r_626), .val ov627, .val ov637, .val (.ref r_680), .val (.int (0 : Int32)), .val (.ref b687), .val (.ref b722), .val (.ref b746), .unset, .unset, .unset, .unset] [(.ref b757)]))
      refine sAw X765 hx (hb hby at_175) (q := 177) rfl rfl (Ls' := #[.val (.int p0), .val (.int p1), .val (.int p2), .val (.int p3), .val (.int p4), .val (.int p5), .val (.ref r_626), .val ov627, .val ov637, .val (.ref r_680), .val (.int (0 : Int32)), .val (.ref b687), .val (.ref b722), .val (.ref b746), .val (.ref b757), .unset, .unset, .unset]) rfl ?_
      refine aLw X765 hx (hb hby at_177) (q := 179) rfl rfl rfl ?_
      refine aLw X765 hx (hb hby at_179) (q := 181) rfl rfl rfl ?_
      have f856 : Exa Z T626.heap aE "java/util/ImmutableCollections$ListN" := PE1.keep K626q
      have f857 : Exa Z h627 aE "java/util/ImmutableCollections$ListN" := f856.keep K627q
      have f858 : Exa Z h637 aE "java/util/ImmutableCollections$ListN" := f857.keep K637q
      have f859 : Exa Z T680.heap aE "java/util/ImmutableCollections$ListN" := f858.keep K680q
      have f860 : Exa Z h687 aE "java/util/ImmutableCollections$ListN" := f859.ext E687
      have f861 : Exa Z T689.heap aE "java/util/ImmutableCollections$ListN" := f860.keep K689q
      have f862 : Exa Z T695.heap aE "java/util/ImmutableCollections$ListN" := f861.keep K695q
      have f863 : Exa Z T707.heap aE "java/util/ImmutableCollections$ListN" := f862.keep K707q
      have f864 : Exa Z h722 aE "java/util/ImmutableCollections$ListN" := f863.ext E722
      have f865 : Exa Z T724.heap aE "java/util/ImmutableCollections$ListN" := f864.keep K724q
      have f866 : Exa Z T737.heap aE "java/util/ImmutableCollections$ListN" := f865.keep K737q
      have f867 : Exa Z h746 aE "java/util/ImmutableCollections$ListN" := f866.ext E746
      have f868 : Exa Z T750.heap aE "java/util/ImmutableCollections$ListN" := f867.keep K750q
      have f869 : Exa Z h757 aE "java/util/ImmutableCollections$ListN" := f868.ext E757
      have f870 : Exa Z T765.heap aE "java/util/ImmutableCollections$ListN" := f869.keep K765q
      have f871 : Fld Z T626.heap aE "java/util/ImmutableCollections$ListN" "elements" "[Ljava/lang/Object;" (.ref eA) := PE2.keep K626q nin0
      have f872 : Fld Z h627 aE "java/util/ImmutableCollections$ListN" "elements" "[Ljava/lang/Object;" (.ref eA) := f871.keep K627q nin0
      have f873 : Fld Z h637 aE "java/util/ImmutableCollections$ListN" "elements" "[Ljava/lang/Object;" (.ref eA) := f872.keep K637q nin0
      have f874 : Fld Z T680.heap aE "java/util/ImmutableCollections$ListN" "elements" "[Ljava/lang/Object;" (.ref eA) := f873.keep K680q nin0
      have f875 : Fld Z h687 aE "java/util/ImmutableCollections$ListN" "elements" "[Ljava/lang/Object;" (.ref eA) := f874.ext E687
      have f876 : Fld Z T689.heap aE "java/util/ImmutableCollections$ListN" "elements" "[Ljava/lang/Object;" (.ref eA) := f875.keep K689q nin0
      have f877 : Fld Z T695.heap aE "java/util/ImmutableCollections$ListN" "elements" "[Ljava/lang/Object;" (.ref eA) := f876.keep K695q nin0
      have le878 : (h0).size ≤ (T626.heap).size := K626q.1
      have le879 : (h0).size ≤ (h627).size := (Nat.le_trans le878 K627q.1)
      have le880 : (h0).size ≤ (h637).size := (Nat.le_trans le879 K637q.1)
      have le881 : (h0).size ≤ (T680.heap).size := (Nat.le_trans le880 K680q.1)
      have ne882 : aE ≠ b687 := (Nat.ne_of_lt (Nat.lt_of_lt_of_le (Nat.lt_of_lt_of_le PE1.lt le881) (Nat.le_of_eq g687.symm)))
      have f883 : Fld Z T707.heap aE "java/util/ImmutableCollections$ListN" "elements" "[Ljava/lang/Object;" (.ref eA) := f877.keep K707q (ninS ne882 nin0)
      have f884 : Fld Z h722 aE "java/util/ImmutableCollections$ListN" "elements" "[Ljava/lang/Object;" (.ref eA) := f883.ext E722
      have f885 : Fld Z T724.heap aE "java/util/ImmutableCollections$ListN" "elements" "[Ljava/lang/Object;" (.ref eA) := f884.keep K724q nin0
      have le886 : (h0).size ≤ (h687).size := (Nat.le_trans le881 E687.1)
      have le887 : (h0).size ≤ (T689.heap).size := (Nat.le_trans le886 K689q.1)
      have le888 : (h0).size ≤ (T695.heap).size := (Nat.le_trans le887 K695q.1)
      have le889 : (h0).size ≤ (T707.heap).size := (Nat.le_trans le888 K707q.1)
      have ne890 : aE ≠ b722 := (Nat.ne_of_lt (Nat.lt_of_lt_of_le (Nat.lt_of_lt_of_le PE1.lt le889) (Nat.le_of_eq g722.symm)))
      have f891 : Fld Z T737.heap aE "java/util/ImmutableCollections$ListN" "elements" "[Ljava/lang/Object;" (.ref eA) := f885.keep K737q (ninS ne890 nin0)
      have f892 : Fld Z h746 aE "java/util/ImmutableCollections$ListN" "elements" "[Ljava/lang/Object;" (.ref eA) := f891.ext E746
      have le893 : (h0).size ≤ (h722).size := (Nat.le_trans le889 E722.1)
      have le894 : (h0).size ≤ (T724.heap).size := (Nat.le_trans le893 K724q.1)
      have le895 : (h0).size ≤ (T737.heap).size := (Nat.le_trans le894 K737q.1)
      have ne896 : aE ≠ b746 := (Nat.ne_of_lt (Nat.lt_of_lt_of_le (Nat.lt_of_lt_of_le PE1.lt le895) (Nat.le_of_eq g746.symm)))
      have f897 : Fld Z T750.heap aE "java/util/ImmutableCollections$ListN" "elements" "[Ljava/lang/Object;" (.ref eA) := f892.keep K750q (ninS ne896 nin0)
      have f898 : Fld Z h757 aE "java/util/ImmutableCollections$ListN" "elements" "[Ljava/lang/Object;" (.ref eA) := f897.ext E757
      have le899 : (h0).size ≤ (h746).size := (Nat.le_trans le895 E746.1)
      have le900 : (h0).size ≤ (T750.heap).size := (Nat.le_trans le899 K750q.1)
      have ne901 : aE ≠ b757 := (Nat.ne_of_lt (Nat.lt_of_lt_of_le (Nat.lt_of_lt_of_le PE1.lt le900) (Nat.le_of_eq g757.symm)))
      have f902 : Fld Z T765.heap aE "java/util/ImmutableCollections$ListN" "elements" "[Ljava/lang/Object;" (.ref eA) := f898.keep K765q (ninS ne901 nin0)
      have f903 : Arv Z T626.heap eA eK (.object "java/lang/Object") (0 : Int32) eL .null := PE3.keep K626q nin0
      have f904 : Arv Z h627 eA eK (.object "java/lang/Object") (0 : Int32) eL .null := f903.keep K627q nin0
      have f905 : Arv Z h637 eA eK (.object "java/lang/Object") (0 : Int32) eL .null := f904.keep K637q nin0
      have f906 : Arv Z T680.heap eA eK (.object "java/lang/Object") (0 : Int32) eL .null := f905.keep K680q nin0
      have f907 : Arv Z h687 eA eK (.object "java/lang/Object") (0 : Int32) eL .null := f906.ext E687
      have f908 : Arv Z T689.heap eA eK (.object "java/lang/Object") (0 : Int32) eL .null := f907.keep K689q nin0
      have f909 : Arv Z T695.heap eA eK (.object "java/lang/Object") (0 : Int32) eL .null := f908.keep K695q nin0
      have ne910 : eA ≠ b687 := (Nat.ne_of_lt (Nat.lt_of_lt_of_le (Nat.lt_of_lt_of_le PE3.lt le881) (Nat.le_of_eq g687.symm)))
      have f911 : Arv Z T707.heap eA eK (.object "java/lang/Object") (0 : Int32) eL .null := f909.keep K707q (ninS ne910 nin0)
      have f912 : Arv Z h722 eA eK (.object "java/lang/Object") (0 : Int32) eL .null := f911.ext E722
      have f913 : Arv Z T724.heap eA eK (.object "java/lang/Object") (0 : Int32) eL .null := f912.keep K724q nin0
      have ne914 : eA ≠ b722 := (Nat.ne_of_lt (Nat.lt_of_lt_of_le (Nat.lt_of_lt_of_le PE3.lt le889) (Nat.le_of_eq g722.symm)))
      have f915 : Arv Z T737.heap eA eK (.object "java/lang/Object") (0 : Int32) eL .null := f913.keep K737q (ninS ne914 nin0)
      have f916 : Arv Z h746 eA eK (.object "java/lang/Object") (0 : Int32) eL .null := f915.ext E746
      have ne917 : eA ≠ b746 := (Nat.ne_of_lt (Nat.lt_of_lt_of_le (Nat.lt_of_lt_of_le PE3.lt le895) (Nat.le_of_eq g746.symm)))
      have f918 : Arv Z T750.heap eA eK (.object "java/lang/Object") (0 : Int32) eL .null := f916.keep K750q (ninS ne917 nin0)
      have f919 : Arv Z h757 eA eK (.object "java/lang/Object") (0 : Int32) eL .null := f918.ext E757
      have ne920 : eA ≠ b757 := (Nat.ne_of_lt (Nat.lt_of_lt_of_le (Nat.lt_of_lt_of_le PE3.lt le900) (Nat.le_of_eq g757.symm)))
      have f921 : Arv Z T765.heap eA eK (.object "java/lang/Object") (0 : Int32) eL .null := f919.keep K765q (ninS ne920 nin0)
      have f922 : Fld Z T626.heap aE "java/util/ImmutableCollections$ListN" "allowNulls" "Z" (.int (0 : Int32)) := PE4.keep K626q nin0
      have f923 : Fld Z h627 aE "java/util/ImmutableCollections$ListN" "allowNulls" "Z" (.int (0 : Int32)) := f922.keep K627q nin0
      have f924 : Fld Z h637 aE "java/util/ImmutableCollections$ListN" "allowNulls" "Z" (.int (0 : Int32)) := f923.keep K637q nin0
      have f925 : Fld Z T680.heap aE "java/util/ImmutableCollections$ListN" "allowNulls" "Z" (.int (0 : Int32)) := f924.keep K680q nin0
      have f926 : Fld Z h687 aE "java/util/ImmutableCollections$ListN" "allowNulls" "Z" (.int (0 : Int32)) := f925.ext E687
      have f927 : Fld Z T689.heap aE "java/util/ImmutableCollections$ListN" "allowNulls" "Z" (.int (0 : Int32)) := f926.keep K689q nin0
      have f928 : Fld Z T695.heap aE "java/util/ImmutableCollections$ListN" "allowNulls" "Z" (.int (0 : Int32)) := f927.keep K695q nin0
      have f929 : Fld Z T707.heap aE "java/util/ImmutableCollections$ListN" "allowNulls" "Z" (.int (0 : Int32)) := f928.keep K707q (ninS ne882 nin0)
      have f930 : Fld Z h722 aE "java/util/ImmutableCollections$ListN" "allowNulls" "Z" (.int (0 : Int32)) := f929.ext E722
      have f931 : Fld Z T724.heap aE "java/util/ImmutableCollections$ListN" "allowNulls" "Z" (.int (0 : Int32)) := f930.keep K724q nin0
      have f932 : Fld Z T737.heap aE "java/util/ImmutableCollections$ListN" "allowNulls" "Z" (.int (0 : Int32)) := f931.keep K737q (ninS ne890 nin0)
      have f933 : Fld Z h746 aE "java/util/ImmutableCollections$ListN" "allowNulls" "Z" (.int (0 : Int32)) := f932.ext E746
      have f934 : Fld Z T750.heap aE "java/util/ImmutableCollections$ListN" "allowNulls" "Z" (.int (0 : Int32)) := f933.keep K750q (ninS ne896 nin0)
      have f935 : Fld Z h757 aE "java/util/ImmutableCollections$ListN" "allowNulls" "Z" (.int (0 : Int32)) := f934.ext E757
      have f936 : Fld Z T765.heap aE "java/util/ImmutableCollections$ListN" "allowNulls" "Z" (.int (0 : Int32)) := f935.keep K765q (ninS ne901 nin0)
      have f937 : Old Z Z.heap.size T765.heap := f770.keep K765q (allS gz766 all0)
      refine g_vi X765 hx hZ724 hown724 (wd112 hw) (wd113 hw) (notFace_of_selects (args := #[]) (mvT hZ724 (wd115 hw))) (wd115 hw) (wd114 hw) (by decide) q765_0 rfl (Con.back (W := 0) (rm_sgnE l Z a0 hw zC SC PC aE SE aD SD aM SM mO MO b757 r_626 (.ref r_680) eA eK eL T765.heap f937 q765_1 q765_2 f870 f902 f921 f936 rfl) hZ724 (wd116 hw) (wd70 hw) (by decide) (by decide)) (by rw [hml]; rfl) (lenOf pd25 rfl) rfl (Nat.le_of_eq rfl) (hb hby at_181) (q := 184) rfl (by decide) (by decide) ?_
      intro v855 T855 L855 X855 Q855
      obtain ⟨r_855, rfl, Nq855, K855q, q855_0, q855_1, q855_2, q855_3, q855_4, q855_5⟩ := Q855
      have N855 := Fr.app N765 Nq855
      show Go _ _ _ _ (T855.setTop (mkF m 184 #[.val (.int p0), .val (.int p1), .val (.int p2), .val (.int p3), .val (.int p4), .val (.int p5), .val (.ref r_626), .val ov627, .val ov637, .val (.ref r_680), .val (.int (0 : Int32)), .val (.ref b687), .val (.ref b722), .val (.ref b746), .val (.ref b757), .unset, .unset, .unset] [(.ref r_855)]))
      refine sAw X855 hx (hb hby at_184) (q := 186) rfl rfl (Ls' := #[.val (.int p0), .val (.int p1), .val (.int p2), .val (.int p3), .val (.int p4), .val (.int p5), .val (.ref r_626), .val ov627, .val ov637, .val (.ref r_680), .val (.int (0 : Int32)), .val (.ref b687), .val (.ref b722), .val (.ref b746), .val (.ref b757), .val (.ref r_855), .unset, .unset]) rfl ?_
      refine aLw X855 hx (hb hby at_186) (q := 188) rfl rfl rfl ?_
      have f939 : Old Z Z.heap.size T855.heap := f937.keep K855q all0
      refine g_vi X855 hx hZ724 hown724 (wd127 hw) (wd128 hw) (notFace_of_selects (args := #[]) (mvT hZ724 (wd130 hw))) (wd130 hw) (wd129 hw) (by decide) q855_1 rfl (Con.back (W := 0) (rm_get_leftOut l Z a0 hw zC SC PC aE SE aD SD aM SM mO MO r_855 aE T855.heap f939 q855_3) hZ724 (wd131 hw) (wd70 hw) (by decide) (by decide)) (by rw [hml]; rfl) (lenOf pd14 rfl) rfl (Nat.le_of_eq rfl) (hb hby at_188) (q := 191) rfl (by decide) (by decide) ?_
      intro v938 T938 L938 X938 Q938
      obtain ⟨rfl, Nq938, e938⟩ := Q938
      have N938 := Fr.app N855 Nq938
      show Go _ _ _ _ (T938.setTop (mkF m 191 #[.val (.int p0), .val (.int p1), .val (.int p2), .val (.int p3), .val (.int p4), .val (.int p5), .val (.ref r_626), .val ov627, .val ov637, .val (.ref r_680), .val (.int (0 : Int32)), .val (.ref b687), .val (.ref b722), .val (.ref b746), .val (.ref b757), .val (.ref r_855), .unset, .unset] [(.ref aE)]))
      refine sAw X938 hx (hb hby at_191) (q := 193) rfl rfl (Ls' := #[.val (.int p0), .val (.int p1), .val (.int p2), .val (.int p3), .val (.int p4), .val (.int p5), .val (.ref r_626), .val ov627, .val ov637, .val (.ref r_680), .val (.int (0 : Int32)), .val (.ref b687), .val (.ref b722), .val (.ref b746), .val (.ref b757), .val (.ref r_855), .val (.ref aE), .unset]) rfl ?_
      refine aLw X938 hx (hb hby at_193) (q := 195) rfl rfl rfl ?_
      have f945 : Exa Z T855.heap aE "java/util/ImmutableCollections$ListN" := f870.keep K855q
      have f946 : Fld Z T855.heap aE "java/util/ImmutableCollections$ListN" "elements" "[Ljava/lang/Object;" (.ref eA) := f902.keep K855q nin0
      have f947 : Arv Z T855.heap eA eK (.object "java/lang/Object") (0 : Int32) eL .null := f921.keep K855q nin0
      have f948 : Fld Z T855.heap aE "java/util/ImmutableCollections$ListN" "allowNulls" "Z" (.int (0 : Int32)) := f936.keep K855q nin0
      refine g_if X938 hx hZ724 hown724 (wd132 hw) (wd133 hw) (wd134 hw) rfl (wd135 hw) (wd136 hw) (wd137 hw) (wd138 hw) (wd126 hw) (by decide) f945 e938 (Con.back (W := 0) (rm_lnsize l Z a0 hw zC SC PC aE SE aD SD aM SM mO MO eA eK eL T855.heap f939 f945 f946 f947 f948) hZ724 (wd140 hw) (wd139 hw) (by decide) (by decide)) (by rw [hml]; rfl) (lenOf pd26 rfl) rfl (Nat.le_of_eq rfl) (hb hby at_195) (q := 200) rfl (by decide) (by decide) ?_
      intro v944 T944 L944 X944 Q944
      obtain ⟨rfl, Nq944, e944⟩ := Q944
      have N944 := Fr.app N938 Nq944
      show Go _ _ _ _ (T944.setTop (mkF m 200 #[.val (.int p0), .val (.int p1), .val (.int p2), .val (.int p3), .val (.int p4), .val (.int p5), .val (.ref r_626), .val ov627, .val ov637, .val (.ref r_680), .val (.int (0 : Int32)), .val (.ref b687), .val (.ref b722), .val (.ref b746), .val (.ref b757), .val (.ref r_855), .val (.ref aE), .unset] [(.int (0 : Int32))]))
      refine iLw X944 hx (hb hby at_200) (q := 202) rfl rfl ?_
      refine icN X944 hx (hb hby at_202) (q := 205) rfl (by decide) ?_
      refine iLw X944 hx (hb hby at_205) (q := 207) rfl rfl ?_
      refine cI X944 hx (hb hby at_207) (q := 208) rfl (z := (1 : Int32)) rfl ?_
      refine icY X944 hx (hb hby at_208) (q := 224) (by decide) (by decide) (by decide) ?_
      refine iLw X944 hx (hb hby at_224) (q := 226) rfl rfl ?_
      refine cI X944 hx (hb hby at_226) (q := 227) rfl (z := (2 : Int32)) rfl ?_
      refine icY X944 hx (hb hby at_227) (q := 243) (by decide) (by decide) (by decide) ?_
      refine cI X944 hx (hb hby at_243) (q := 244) rfl (z := (1 : Int32)) rfl ?_
      refine g_goto X944 hx (hb hby at_244) (q := 248) (by decide) (by decide) ?_
      refine sIw X944 hx (hb hby at_248) (q := 250) rfl (Ls' := #[.val (.int p0), .val (.int p1), .val (.int p2), .val (.int p3), .val (.int p4), .val (.int p5), .val (.ref r_626), .val ov627, .val ov637, .val (.ref r_680), .val (.int (0 : Int32)), .val (.ref b687), .val (.ref b722), .val (.ref b746), .val (.ref b757), .val (.ref r_855), .val (.ref aE), .val (.int (1 : Int32))]) rfl ?_
      refine iLw X944 hx (hb hby at_250) (q := 252) rfl rfl ?_
      refine ifN X944 hx (hb hby at_252) (q := 255) rfl (by decide) ?_
      refine aLw X944 hx (hb hby at_255) (q := 257) rfl rfl rfl ?_
      refine g_vi X944 hx hZ724 hown724 (wd143 hw) (wd144 hw) (notFace_of_selects (args := #[]) (mvT hZ724 (wd146 hw))) (wd146 hw) (wd145 hw) (by decide) q855_1 e944 (Con.back (W := 0) (rm_get_submittedBy l Z a0 hw zC SC PC aE SE aD SD aM SM mO MO r_855 r_626 T855.heap f939 q855_2) hZ724 (wd147 hw) (wd70 hw) (by decide) (by decide)) (by rw [hml]; rfl) (lenOf pd27 rfl) rfl (Nat.le_of_eq rfl) (hb hby at_257) (q := 260) rfl (by decide) (by decide) ?_
      intro v949 T949 L949 X949 Q949
      obtain ⟨rfl, Nq949, e949⟩ := Q949
      have N949 := Fr.app N944 Nq949
      show Go _ _ _ _ (T949.setTop (mkF m 260 #[.val (.int p0), .val (.int p1), .val (.int p2), .val (.int p3), .val (.int p4), .val (.int p5), .val (.ref r_626), .val ov627, .val ov637, .val (.ref r_680), .val (.int (0 : Int32)), .val (.ref b687), .val (.ref b722), .val (.ref b746), .val (.ref b757), .val (.ref r_855), .val (.ref aE), .val (.int (1 : Int32))] [(.ref r_626)]))
      refine aLw X949 hx (hb hby at_260) (q := 262) rfl rfl rfl ?_
      have f966 : Exa Z h627 r_626 "java/lang/String" := q626_1.keep K627q
      have f967 : Exa Z h637 r_626 "java/lang/String" := f966.keep K637q
      have f968 : Exa Z T680.heap r_626 "java/lang/String" := f967.keep K680q
      have f969 : Exa Z h687 r_626 "java/lang/String" := f968.ext E687
      have f970 : Exa Z T689.heap r_626 "java/lang/String" := f969.keep K689q
      have f971 : Exa Z T695.heap r_626 "java/lang/String" := f970.keep K695q
      have f972 : Exa Z T707.heap r_626 "java/lang/String" := f971.keep K707q
      have f973 : Exa Z h722 r_626 "java/lang/String" := f972.ext E722
      have f974 : Exa Z T724.heap r_626 "java/lang/String" := f973.keep K724q
      have f975 : Exa Z T737.heap r_626 "java/lang/String" := f974.keep K737q
      have f976 : Exa Z h746 r_626 "java/lang/String" := f975.ext E746
      have f977 : Exa Z T750.heap r_626 "java/lang/String" := f976.keep K750q
      have f978 : Exa Z h757 r_626 "java/lang/String" := f977.ext E757
      have f979 : Exa Z T765.heap r_626 "java/lang/String" := f978.keep K765q
      have f980 : Exa Z T855.heap r_626 "java/lang/String" := f979.keep K855q
      refine g_st X949 hx hZ724 hown724 (wd148 hw) (wd149 hw) (wd2 hw) (wd150 hw) (by decide) e949 (Con.back (W := 0) (rm_samer l Z a0 hw zC SC PC aE SE aD SD aM SM mO MO r_626 T855.heap f939 f980) hZ724 (wd150 hw) (wd2 hw) (by decide) (by decide)) (by rw [hml]; rfl) (lenOf pd28 rfl) rfl (Nat.le_of_eq rfl) (hb hby at_262) (q := 265) rfl (by decide) (by decide) ?_
      intro v965 T965 L965 X965 Q965
      obtain ⟨rfl, Nq965, e965⟩ := Q965
      have N965 := Fr.app N949 Nq965
      show Go _ _ _ _ (T965.setTop (mkF m 265 #[.val (.int p0), .val (.int p1), .val (.int p2), .val (.int p3), .val (.int p4), .val (.int p5), .val (.ref r_626), .val ov627, .val ov637, .val (.ref r_680), .val (.int (0 : Int32)), .val (.ref b687), .val (.ref b722), .val (.ref b746), .val (.ref b757), .val (.ref r_855), .val (.ref aE), .val (.int (1 : Int32))] [(.int (1 : Int32))]))
      refine ifN X965 hx (hb hby at_265) (q := 268) rfl (by decide) ?_
      refine aLw X965 hx (hb hby at_268) (q := 270) rfl rfl rfl ?_
      refine g_vi X965 hx hZ724 hown724 (wd156 hw) (wd157 hw) (notFace_of_selects (args := #[]) (mvT hZ724 (wd159 hw))) (wd159 hw) (wd158 hw) (by decide) q855_1 e965 (Con.back (W := 0) (rm_get_signedOffBy l Z a0 hw zC SC PC aE SE aD SD aM SM mO MO r_855 (.ref r_680) T855.heap f939 q855_4 rfl) hZ724 (wd160 hw) (wd70 hw) (by decide) (by decide)) (by rw [hml]; rfl) (lenOf pd27 rfl) rfl (Nat.le_of_eq rfl) (hb hby at_270) (q := 273) rfl (by decide) (by decide) ?_
      intro v981 T981 L981 X981 Q981
      obtain ⟨rfl, Nq981, e981⟩ := Q981
      have N981 := Fr.app N965 Nq981
      show Go _ _ _ _ (T981.setTop (mkF m 273 #[.val (.int p0), .val (.int p1), .val (.int p2), .val (.int p3), .val (.int p4), .val (.int p5), .val (.ref r_626), .val ov627, .val ov637, .val (.ref r_680), .val (.int (0 : Int32)), .val (.ref b687), .val (.ref b722), .val (.ref b746), .val (.ref b757), .val (.ref r_855), .val (.ref aE), .val (.int (1 : Int32))] [(.ref r_680)]))
      refine aLw X981 hx (hb hby at_273) (q := 275) rfl rfl rfl ?_
      have f995 : Exa Z h687 r_680 "java/lang/String" := q680_1.ext E687
      have f996 : Exa Z T689.heap r_680 "java/lang/String" := f995.keep K689q
      have f997 : Exa Z T695.heap r_680 "java/lang/String" := f996.keep K695q
      have f998 : Exa Z T707.heap r_680 "java/lang/String" := f997.keep K707q
      have f999 : Exa Z h722 r_680 "java/lang/String" := f998.ext E722
      have f1000 : Exa Z T724.heap r_680 "java/lang/String" := f999.keep K724q
      have f1001 : Exa Z T737.heap r_680 "java/lang/String" := f1000.keep K737q
      have f1002 : Exa Z h746 r_680 "java/lang/String" := f1001.ext E746
      have f1003 : Exa Z T750.heap r_680 "java/lang/String" := f1002.keep K750q
      have f1004 : Exa Z h757 r_680 "java/lang/String" := f1003.ext E757
      have f1005 : Exa Z T765.heap r_680 "java/lang/String" := f1004.keep K765q
      have f1006 : Exa Z T855.heap r_680 "java/lang/String" := f1005.keep K855q
      refine g_st X981 hx hZ724 hown724 (wd148 hw) (wd149 hw) (wd2 hw) (wd150 hw) (by decide) e981 (Con.back (W := 0) (rm_samer l Z a0 hw zC SC PC aE SE aD SD aM SM mO MO r_680 T855.heap f939 f1006) hZ724 (wd150 hw) (wd2 hw) (by decide) (by decide)) (by rw [hml]; rfl) (lenOf pd28 rfl) rfl (Nat.le_of_eq rfl) (hb hby at_275) (q := 278) rfl (by decide) (by decide) ?_
      intro v994 T994 L994 X994 Q994
      obtain ⟨rfl, Nq994, e994⟩ := Q994
      have N994 := Fr.app N981 Nq994
      show Go _ _ _ _ (T994.setTop (mkF m 278 #[.val (.int p0), .val (.int p1), .val (.int p2), .val (.int p3), .val (.int p4), .val (.int p5), .val (.ref r_626), .val ov627, .val ov637, .val (.ref r_680), .val (.int (0 : Int32)), .val (.ref b687), .val (.ref b722), .val (.ref b746), .val (.ref b757), .val (.ref r_855), .val (.ref aE), .val (.int (1 : Int32))] [(.int (1 : Int32))]))
      refine ifN X994 hx (hb hby at_278) (q := 281) rfl (by decide) ?_
      refine aLw X994 hx (hb hby at_281) (q := 283) rfl rfl rfl ?_
      refine g_vi X994 hx hZ724 hown724 (wd161 hw) (wd162 hw) (notFace_of_selects (args := #[]) (mvT hZ724 (wd164 hw))) (wd164 hw) (wd163 hw) (by decide) q855_1 e994 (Con.back (W := 0) (rm_get_withdrawn l Z a0 hw zC SC PC aE SE aD SD aM SM mO MO r_855 T855.heap f939 q855_5) hZ724 (wd165 hw) (wd70 hw) (by decide) (by decide)) (by rw [hml]; rfl) (lenOf pd29 rfl) rfl (Nat.le_of_eq rfl) (hb hby at_283) (q := 286) rfl (by decide) (by decide) ?_
      intro v1007 T1007 L1007 X1007 Q1007
      obtain ⟨rfl, Nq1007, e1007⟩ := Q1007
      have N1007 := Fr.app N994 Nq1007
      show Go _ _ _ _ (T1007.setTop (mkF m 286 #[.val (.int p0), .val (.int p1), .val (.int p2), .val (.int p3), .val (.int p4), .val (.int p5), .val (.ref r_626), .val ov627, .val ov637, .val (.ref r_680), .val (.int (0 : Int32)), .val (.ref b687), .val (.ref b722), .val (.ref b746), .val (.ref b757), .val (.ref r_855), .val (.ref aE), .val (.int (1 : Int32))] [.null]))
      refine nnN X1007 hx (hb hby at_286) (q := 289) rfl ?_
      refine cI X1007 hx (hb hby at_289) (q := 290) rfl (z := (1 : Int32)) rfl ?_
      refine g_goto X1007 hx (hb hby at_290) (q := 294) (by decide) (by decide) ?_
      have le1008 : (T724.heap).size ≤ (T737.heap).size := K737q.1
      have le1009 : (T724.heap).size ≤ (h746).size := (Nat.le_trans le1008 E746.1)
      have le1010 : (T724.heap).size ≤ (T750.heap).size := (Nat.le_trans le1009 K750q.1)
      have le1011 : (T724.heap).size ≤ (h757).size := (Nat.le_trans le1010 E757.1)
      have le1012 : (T724.heap).size ≤ (T765.heap).size := (Nat.le_trans le1011 K765q.1)
      have le1013 : (T724.heap).size ≤ (T855.heap).size := (Nat.le_trans le1012 K855q.1)
      have f1014 : CHr Z EL s.vm s.heap T724.vm h757 := f772.trans (CHr.ext E757 f772.1)
      have f1015 : CHr Z EL s.vm s.heap T724.vm T765.heap := f1014.trans (CHr.keep K765q (sfS f773 sf0) f1014.1)
      have f1016 : CHr Z EL s.vm s.heap T724.vm T855.heap := f1015.trans (CHr.keep K855q sf0 f1015.1)
      refine endC X1007 hlk hS724 (by rw [e1007]; exact (Nat.le_trans (Nat.le_refl _) le1013)) hZ724 (own_EW hw) (by rw [e1007]; exact f1016) (fun h => by rw [hret] at h; cases h) (lastN X1007 hx (t := .boolean) (z' := (1 : Int32)) hret (by simp) (by decide) (hb hby at_294)) ?_ (by decide) (by decide)
      rw [e1007]
      exact ⟨rfl, N1007, trivial⟩
    · rw [hk685]
      show Go _ _ _ _ (T680.setTop (mkF m 76 #[.val (.int p0), .val (.int p1), .val (.int p2), .val (.int p3), .val (.int p4), .val (.int p5), .val (.ref r_626), .val ov627, .val ov637, .val (.ref r_680), .unset, .unset, .unset, .unset, .unset, .unset, .unset, .unset] [(.int (1 : Int32))]))
      refine sIw X680 hx (hb hby at_76) (q := 78) rfl (Ls' := #[.val (.int p0), .val (.int p1), .val (.int p2), .val (.int p3), .val (.int p4), .val (.int p5), .val (.ref r_626), .val ov627, .val ov637, .val (.ref r_680), .val (.int (1 : Int32)), .unset, .unset, .unset, .unset, .unset, .unset, .unset]) rfl ?_
      refine g_new X680 hx hZ680 hown680 (wd26 hw) (wd27 hw) (wd28 hw) (by decide) (by decide) rfl (hb hby at_78) (q := 81) rfl ?_
      intro T1017 h1017 b1017 g1017 X1017 e1017 E1017 A1017 D1017
      have sf1018 : Safe Z EL T680.vm T680.heap b1017 := Safe.new (Nat.le_of_eq g1017.symm)
      have F1017_39 := D1017 (Or.inr (wd39 hw)) (ty := .int) (by decide)
      have F1017_41 := D1017 (Or.inr (wd41 hw)) (ty := (.object "java/lang/String")) (by decide)
      have F1017_43 := D1017 (Or.inr (wd43 hw)) (ty := (.object "java/lang/String")) (by decide)
      refine g_dup X1017 hx (hb hby at_81) (q := 82) rfl rfl ?_
      refine iLw X1017 hx (hb hby at_82) (q := 84) rfl rfl ?_
      refine iLw X1017 hx (hb hby at_84) (q := 86) rfl rfl ?_
      have f1020 : Old Z Z.heap.size T680.heap := f683.keep K680q all0
      have f1021 : Old Z Z.heap.size h1017 := f1020.ext E1017
      have f1022 : CHr Z EL s.vm s.heap T680.vm T680.heap := C637.trans R680
      have f1023 : CHr Z EL s.vm s.heap T680.vm h1017 := f1022.trans (CHr.ext E1017 f1022.1)
      have le1024 : (T680.heap).size ≤ (h1017).size := E1017.1
      refine g_stS X1017 hx hZ680 hown680 hS680 (Nat.le_trans (Nat.le_refl _) le1024) (wd0 hw) (wd1 hw) (wd2 hw) (wd3 hw) (by decide) e1017 (ConS.back (W := 3) (rm_str l Z a0 hw zC SC PC aE SE aD SD aM SM mO MO p5 h1017 f1021 ) hZ680 (wd3 hw) (wd2 hw) (by decide) (by decide) (own_EW hw) f1023.1 sf0 all0) (by rw [hml]; rfl) (lenOf pd22 rfl) rfl (Nat.le_of_eq rfl) (hb hby at_86) (q := 89) rfl (by decide) (by decide) ?_
      rintro v1019 T1019 L1019 ⟨X1019, hS1019, hZ1019, hown1019, R1019⟩ Q1019
      obtain ⟨r_1019, rfl, Nq1019, K1019q, q1019_0, q1019_1⟩ := Q1019
      have N1019 := Fr.app N680 Nq1019
      show Go _ _ _ _ (T1019.setTop (mkF m 89 #[.val (.int p0), .val (.int p1), .val (.int p2), .val (.int p3), .val (.int p4), .val (.int p5), .val (.ref r_626), .val ov627, .val ov637, .val (.ref r_680), .val (.int (1 : Int32)), .unset, .unset, .unset, .unset, .unset, .unset, .unset] [(.ref r_1019), (.int p4), (.ref b1017), (.ref b1017)]))
      refine iL X1019 hx (hb hby at_89) (q := 90) rfl rfl ?_
      refine bI X1019 hx (hb hby at_90) (q := 92) rfl (z := (16 : Int32)) rfl ?_
      refine g_iushr X1019 hx (hb hby at_92) (q := 93) rfl rfl ?_
      have f1026 : Old Z Z.heap.size T1019.heap := f1021.keep K1019q all0
      have f1027 : CHr Z EL s.vm s.heap T1019.vm T1019.heap := f1023.trans R1019
      refine g_stS X1019 hx hZ1019 hown1019 hS1019 (Nat.le_trans (Nat.le_refl _) (Nat.le_refl _)) (wd0 hw) (wd1 hw) (wd2 hw) (wd3 hw) (by decide) rfl (ConS.back (W := 4) (rm_str l Z a0 hw zC SC PC aE SE aD SD aM SM mO MO ((p0.toUInt32 >>> ((16 : Int32) &&& 31).toUInt32).toInt32) T1019.heap f1026 ) hZ1019 (wd3 hw) (wd2 hw) (by decide) (by decide) (own_EW hw) f1027.1 sf0 all0) (by rw [hml]; rfl) (lenOf pd22 rfl) rfl (Nat.le_of_eq rfl) (hb hby at_93) (q := 96) rfl (by decide) (by decide) ?_
      rintro v1025 T1025 L1025 ⟨X1025, hS1025, hZ1025, hown1025, R1025⟩ Q1025
      obtain ⟨r_1025, rfl, Nq1025, K1025q, q1025_0, q1025_1⟩ := Q1025
      have N1025 := Fr.app N1019 Nq1025
      show Go _ _ _ _ (T1025.setTop (mkF m 96 #[.val (.int p0), .val (.int p1), .val (.int p2), .val (.int p3), .val (.int p4), .val (.int p5), .val (.ref r_626), .val ov627, .val ov637, .val (.ref r_680), .val (.int (1 : Int32)), .unset, .unset, .unset, .unset, .unset, .unset, .unset] [(.ref r_1025), (.ref r_1019), (.int p4), (.ref b1017), (.ref b1017)]))
      have f1038 : Exa Z T1019.heap b1017 "com/example/quaymark/quaymark/Review$LeftOut" := A1017.keep K1019q
      have f1039 : Exa Z T1025.heap b1017 "com/example/quaymark/quaymark/Review$LeftOut" := f1038.keep K1025q
      have f1040 : Fld Z T1019.heap b1017 "com/example/quaymark/quaymark/Review$LeftOut" "line" "I" (.int (0 : Int32)) := F1017_39.keep K1019q nin0
      have f1041 : Fld Z T1025.heap b1017 "com/example/quaymark/quaymark/Review$LeftOut" "line" "I" (.int (0 : Int32)) := f1040.keep K1025q nin0
      have f1042 : Fld Z T1019.heap b1017 "com/example/quaymark/quaymark/Review$LeftOut" "reason" "Ljava/lang/String;" .null := F1017_41.keep K1019q nin0
      have f1043 : Fld Z T1025.heap b1017 "com/example/quaymark/quaymark/Review$LeftOut" "reason" "Ljava/lang/String;" .null := f1042.keep K1025q nin0
      have f1044 : Fld Z T1019.heap b1017 "com/example/quaymark/quaymark/Review$LeftOut" "by" "Ljava/lang/String;" .null := F1017_43.keep K1019q nin0
      have f1045 : Fld Z T1025.heap b1017 "com/example/quaymark/quaymark/Review$LeftOut" "by" "Ljava/lang/String;" .null := f1044.keep K1025q nin0
      have gz1046 : Z.heap.size ≤ b1017 := Nat.le_trans f1020.2.1 (Nat.le_of_eq g1017.symm)
      have f1047 : Old Z Z.heap.size T1025.heap := f1026.keep K1025q all0
      have f1048 : Safe Z EL T680.vm h1017 b1017 := Safe.ext E1017 f1022.1 sf1018
      have f1049 : Safe Z EL T1019.vm T1019.heap b1017 := R1019.safe (Nat.lt_of_lt_of_le A1017.lt (Nat.le_refl _)) f1048
      have le1050 : (h1017).size ≤ (T1019.heap).size := K1019q.1
      have f1051 : Safe Z EL T1025.vm T1025.heap b1017 := R1025.safe (Nat.lt_of_lt_of_le A1017.lt le1050) f1049
      refine g_sp X1025 hx hZ1025 hown1025 (wd29 hw) (wd30 hw) (wd31 hw) rfl (by decide) rfl (Con.back (W := 1) (rm_loinit l Z a0 hw zC SC PC aE SE aD SD aM SM mO MO b1017 p4 r_1019 r_1025 T1025.heap f1047 f1039 f1041 f1043 f1045 gz1046) hZ1025 (wd31 hw) (wd28 hw) (by decide) (by decide)) (by rw [hml]; rfl) (lenOf pd24 rfl) rfl (Nat.le_of_eq rfl) (hb hby at_96) (q := 99) rfl (by decide) (by decide) ?_
      intro v1037 T1037 L1037 X1037 Q1037
      obtain ⟨rfl, Nq1037, K1037q, q1037_0⟩ := Q1037
      have N1037 := Fr.app N1025 Nq1037
      show Go _ _ _ _ (T1037.setTop (mkF m 99 #[.val (.int p0), .val (.int p1), .val (.int p2), .val (.int p3), .val (.int p4), .val (.int p5), .val (.ref r_626), .val ov627, .val ov637, .val (.ref r_680), .val (.int (1 : Int32)), .unset, .unset, .unset, .unset, .unset, .unset, .unset] [(.ref b1017)]))
      refine sAw X1037 hx (hb hby at_99) (q := 101) rfl rfl (Ls' := #[.val (.int p0), .val (.int p1), .val (.int p2), .val (.int p3), .val (.int p4), .val (.int p5), .val (.ref r_626), .val ov627, .val ov637, .val (.ref r_680), .val (.int (1 : Int32)), .val (.ref b1017), .unset, .unset, .unset, .unset, .unset, .unset]) rfl ?_
      refine g_new X1037 hx hZ1025 hown1025 (wd26 hw) (wd27 hw) (wd28 hw) (by decide) (by decide) rfl (hb hby at_101) (q := 104) rfl ?_
      intro T1052 h1052 b1052 g1052 X1052 e1052 E1052 A1052 D1052
      have sf1053 : Safe Z EL T1025.vm T1037.heap b1052 := Safe.new (Nat.le_of_eq g1052.symm)
      have F1052_39 := D1052 (Or.inr (wd39 hw)) (ty := .int) (by decide)
      have F1052_41 := D1052 (Or.inr (wd41 hw)) (ty := (.object "java/lang/String")) (by decide)
      have F1052_43 := D1052 (Or.inr (wd43 hw)) (ty := (.object "java/lang/String")) (by decide)
      refine g_dup X1052 hx (hb hby at_104) (q := 105) rfl rfl ?_
      refine iLw X1052 hx (hb hby at_105) (q := 107) rfl rfl ?_
      refine iLw X1052 hx (hb hby at_107) (q := 109) rfl rfl ?_
      have f1055 : Old Z Z.heap.size T1037.heap := f1047.keep K1037q (allS gz1046 all0)
      have f1056 : Old Z Z.heap.size h1052 := f1055.ext E1052
      have f1057 : CHr Z EL s.vm s.heap T1025.vm T1025.heap := f1027.trans R1025
      have f1058 : CHr Z EL s.vm s.heap T1025.vm T1037.heap := f1057.trans (CHr.keep K1037q (sfS f1051 sf0) f1057.1)
      have f1059 : CHr Z EL s.vm s.heap T1025.vm h1052 := f1058.trans (CHr.ext E1052 f1058.1)
      have le1060 : (T1025.heap).size ≤ (T1037.heap).size := K1037q.1
      have le1061 : (T1025.heap).size ≤ (h1052).size := (Nat.le_trans le1060 E1052.1)
      refine g_stS X1052 hx hZ1025 hown1025 hS1025 (Nat.le_trans (Nat.le_refl _) le1061) (wd0 hw) (wd1 hw) (wd2 hw) (wd3 hw) (by decide) e1052 (ConS.back (W := 3) (rm_str l Z a0 hw zC SC PC aE SE aD SD aM SM mO MO p4 h1052 f1056 ) hZ1025 (wd3 hw) (wd2 hw) (by decide) (by decide) (own_EW hw) f1059.1 sf0 all0) (by rw [hml]; rfl) (lenOf pd22 rfl) rfl (Nat.le_of_eq rfl) (hb hby at_109) (q := 112) rfl (by decide) (by decide) ?_
      rintro v1054 T1054 L1054 ⟨X1054, hS1054, hZ1054, hown1054, R1054⟩ Q1054
      obtain ⟨r_1054, rfl, Nq1054, K1054q, q1054_0, q1054_1⟩ := Q1054
      have N1054 := Fr.app N1037 Nq1054
      show Go _ _ _ _ (T1054.setTop (mkF m 112 #[.val (.int p0), .val (.int p1), .val (.int p2), .val (.int p3), .val (.int p4), .val (.int p5), .val (.ref r_626), .val ov627, .val ov637, .val (.ref r_680), .val (.int (1 : Int32)), .val (.ref b1017), .unset, .unset, .unset, .unset, .unset, .unset] [(.ref r_1054), (.int p5), (.ref b1052), (.ref b1052)]))
      refine aLw X1054 hx (hb hby at_112) (q := 114) rfl rfl rfl ?_
      have f1068 : Exa Z T1054.heap b1052 "com/example/quaymark/quaymark/Review$LeftOut" := A1052.keep K1054q
      have f1069 : Fld Z T1054.heap b1052 "com/example/quaymark/quaymark/Review$LeftOut" "line" "I" (.int (0 : Int32)) := F1052_39.keep K1054q nin0
      have f1070 : Fld Z T1054.heap b1052 "com/example/quaymark/quaymark/Review$LeftOut" "reason" "Ljava/lang/String;" .null := F1052_41.keep K1054q nin0
      have f1071 : Fld Z T1054.heap b1052 "com/example/quaymark/quaymark/Review$LeftOut" "by" "Ljava/lang/String;" .null := F1052_43.keep K1054q nin0
      have gz1072 : Z.heap.size ≤ b1052 := Nat.le_trans f1055.2.1 (Nat.le_of_eq g1052.symm)
      have f1073 : Old Z Z.heap.size T1054.heap := f1056.keep K1054q all0
      have f1074 : Safe Z EL T1025.vm h1052 b1052 := Safe.ext E1052 f1058.1 sf1053
      have f1075 : Safe Z EL T1054.vm T1054.heap b1052 := R1054.safe (Nat.lt_of_lt_of_le A1052.lt (Nat.le_refl _)) f1074
      refine g_sp X1054 hx hZ1054 hown1054 (wd29 hw) (wd30 hw) (wd31 hw) rfl (by decide) rfl (Con.back (W := 1) (rm_loinit l Z a0 hw zC SC PC aE SE aD SD aM SM mO MO b1052 p5 r_1054 r_626 T1054.heap f1073 f1068 f1069 f1070 f1071 gz1072) hZ1054 (wd31 hw) (wd28 hw) (by decide) (by decide)) (by rw [hml]; rfl) (lenOf pd24 rfl) rfl (Nat.le_of_eq rfl) (hb hby at_114) (q := 117) rfl (by decide) (by decide) ?_
      intro v1067 T1067 L1067 X1067 Q1067
      obtain ⟨rfl, Nq1067, K1067q, q1067_0⟩ := Q1067
      have N1067 := Fr.app N1054 Nq1067
      show Go _ _ _ _ (T1067.setTop (mkF m 117 #[.val (.int p0), .val (.int p1), .val (.int p2), .val (.int p3), .val (.int p4), .val (.int p5), .val (.ref r_626), .val ov627, .val ov637, .val (.ref r_680), .val (.int (1 : Int32)), .val (.ref b1017), .unset, .unset, .unset, .unset, .unset, .unset] [(.ref b1052)]))
      refine sAw X1067 hx (hb hby at_117) (q := 119) rfl rfl (Ls' := #[.val (.int p0), .val (.int p1), .val (.int p2), .val (.int p3), .val (.int p4), .val (.int p5), .val (.ref r_626), .val ov627, .val ov637, .val (.ref r_680), .val (.int (1 : Int32)), .val (.ref b1017), .val (.ref b1052), .unset, .unset, .unset, .unset, .unset]) rfl ?_
      refine g_new X1067 hx hZ1054 hown1054 (wd44 hw) (wd45 hw) (wd46 hw) (by decide) (by decide) rfl (hb hby at_119) (q := 122) rfl ?_
      intro T1076 h1076 b1076 g1076 X1076 e1076 E1076 A1076 D1076
      have sf1077 : Safe Z EL T1054.vm T1067.heap b1076 := Safe.new (Nat.le_of_eq g1076.symm)
      have F1076_64 := D1076 (Or.inl (wd64 hw)) (ty := .int) (by decide)
      have F1076_67 := D1076 (Or.inl (wd67 hw)) (ty := (.array (.object "java/lang/Object"))) (by decide)
      have F1076_99 := D1076 (Or.inl (wd99 hw)) (ty := .int) (by decide)
      refine g_dup X1076 hx (hb hby at_122) (q := 123) rfl rfl ?_
      have f1082 : Old Z Z.heap.size T1067.heap := f1073.keep K1067q (allS gz1072 all0)
      have gz1081 : Z.heap.size ≤ b1076 := Nat.le_trans f1082.2.1 (Nat.le_of_eq g1076.symm)
      have f1083 : Old Z Z.heap.size h1076 := f1082.ext E1076
      have f1084 : CHr Z EL s.vm s.heap T1054.vm T1054.heap := f1059.trans R1054
      have f1085 : CHr Z EL s.vm s.heap T1054.vm T1067.heap := f1084.trans (CHr.keep K1067q (sfS f1075 sf0) f1084.1)
      have f1086 : Safe Z EL T1054.vm h1076 b1076 := Safe.ext E1076 f1085.1 sf1077
      refine g_sp X1076 hx hZ1054 hown1054 (wd47 hw) (wd48 hw) (wd49 hw) rfl (by decide) e1076 (Con.back (W := 1) (rm_alinit l Z a0 hw zC SC PC aE SE aD SD aM SM mO MO b1076 h1076 f1083 A1076 F1076_64 gz1081 F1076_99 F1076_67) hZ1054 (wd49 hw) (wd46 hw) (by decide) (by decide)) (by rw [hml]; rfl) (lenOf pd1 rfl) rfl (Nat.le_of_eq rfl) (hb hby at_123) (q := 126) rfl (by decide) (by decide) ?_
      intro v1080 T1080 L1080 X1080 Q1080
      obtain ⟨rfl, Nq1080, K1080q, q1080_0, q1080_1, q1080_2, q1080_3⟩ := Q1080
      have N1080 := Fr.app N1067 Nq1080
      show Go _ _ _ _ (T1080.setTop (mkF m 126 #[.val (.int p0), .val (.int p1), .val (.int p2), .val (.int p3), .val (.int p4), .val (.int p5), .val (.ref r_626), .val ov627, .val ov637, .val (.ref r_680), .val (.int (1 : Int32)), .val (.ref b1017), .val (.ref b1052), .unset, .unset, .unset, .unset, .unset] [(.ref b1076)]))
      refine sAw X1080 hx (hb hby at_126) (q := 128) rfl rfl (Ls' := #[.val (.int p0), .val (.int p1), .val (.int p2), .val (.int p3), .val (.int p4), .val (.int p5), .val (.ref r_626), .val ov627, .val ov637, .val (.ref r_680), .val (.int (1 : Int32)), .val (.ref b1017), .val (.ref b1052), .val (.ref b1076), .unset, .unset, .unset, .unset]) rfl ?_
      refine iLw X1080 hx (hb hby at_128) (q := 130) rfl rfl ?_
      refine cI X1080 hx (hb hby at_130) (q := 131) rfl (z := (1 : Int32)) rfl ?_
      refine icN X1080 hx (hb hby at_131) (q := 134) rfl (by decide) ?_
      refine aLw X1080 hx (hb hby at_134) (q := 136) rfl rfl rfl ?_
      refine aLw X1080 hx (hb hby at_136) (q := 138) rfl rfl rfl ?_
      have f1133 : Exa Z T626.heap aD "[Ljava/lang/Object;" := PD1.keep K626q
      have f1134 : Exa Z h627 aD "[Ljava/lang/Object;" := f1133.keep K627q
      have f1135 : Exa Z h637 aD "[Ljava/lang/Object;" := f1134.keep K637q
      have f1136 : Exa Z T680.heap aD "[Ljava/lang/Object;" := f1135.keep K680q
      have f1137 : Exa Z h1017 aD "[Ljava/lang/Object;" := f1136.ext E1017
      have f1138 : Exa Z T1019.heap aD "[Ljava/lang/Object;" := f1137.keep K1019q
      have f1139 : Exa Z T1025.heap aD "[Ljava/lang/Object;" := f1138.keep K1025q
      have f1140 : Exa Z T1037.heap aD "[Ljava/lang/Object;" := f1139.keep K1037q
      have f1141 : Exa Z h1052 aD "[Ljava/lang/Object;" := f1140.ext E1052
      have f1142 : Exa Z T1054.heap aD "[Ljava/lang/Object;" := f1141.keep K1054q
      have f1143 : Exa Z T1067.heap aD "[Ljava/lang/Object;" := f1142.keep K1067q
      have f1144 : Exa Z h1076 aD "[Ljava/lang/Object;" := f1143.ext E1076
      have f1145 : Exa Z T1080.heap aD "[Ljava/lang/Object;" := f1144.keep K1080q
      have f1146 : Arv Z T626.heap aD dK (.object "java/lang/Object") (0 : Int32) dL .null := PD2.keep K626q nin0
      have f1147 : Arv Z h627 aD dK (.object "java/lang/Object") (0 : Int32) dL .null := f1146.keep K627q nin0
      have f1148 : Arv Z h637 aD dK (.object "java/lang/Object") (0 : Int32) dL .null := f1147.keep K637q nin0
      have f1149 : Arv Z T680.heap aD dK (.object "java/lang/Object") (0 : Int32) dL .null := f1148.keep K680q nin0
      have f1150 : Arv Z h1017 aD dK (.object "java/lang/Object") (0 : Int32) dL .null := f1149.ext E1017
      have f1151 : Arv Z T1019.heap aD dK (.object "java/lang/Object") (0 : Int32) dL .null := f1150.keep K1019q nin0
      have f1152 : Arv Z T1025.heap aD dK (.object "java/lang/Object") (0 : Int32) dL .null := f1151.keep K1025q nin0
      have le1153 : (h0).size ≤ (T626.heap).size := K626q.1
      have le1154 : (h0).size ≤ (h627).size := (Nat.le_trans le1153 K627q.1)
      have le1155 : (h0).size ≤ (h637).size := (Nat.le_trans le1154 K637q.1)
      have le1156 : (h0).size ≤ (T680.heap).size := (Nat.le_trans le1155 K680q.1)
      have ne1157 : aD ≠ b1017 := (Nat.ne_of_lt (Nat.lt_of_lt_of_le (Nat.lt_of_lt_of_le PD1.lt le1156) (Nat.le_of_eq g1017.symm)))
      have f1158 : Arv Z T1037.heap aD dK (.object "java/lang/Object") (0 : Int32) dL .null := f1152.keep K1037q (ninS ne1157 nin0)
      have f1159 : Arv Z h1052 aD dK (.object "java/lang/Object") (0 : Int32) dL .null := f1158.ext E1052
      have f1160 : Arv Z T1054.heap aD dK (.object "java/lang/Object") (0 : Int32) dL .null := f1159.keep K1054q nin0
      have le1161 : (h0).size ≤ (h1017).size := (Nat.le_trans le1156 E1017.1)
      have le1162 : (h0).size ≤ (T1019.heap).size := (Nat.le_trans le1161 K1019q.1)
      have le1163 : (h0).size ≤ (T1025.heap).size := (Nat.le_trans le1162 K1025q.1)
      have le1164 : (h0).size ≤ (T1037.heap).size := (Nat.le_trans le1163 K1037q.1)
      have ne1165 : aD ≠ b1052 := (Nat.ne_of_lt (Nat.lt_of_lt_of_le (Nat.lt_of_lt_of_le PD1.lt le1164) (Nat.le_of_eq g1052.symm)))
      have f1166 : Arv Z T1067.heap aD dK (.object "java/lang/Object") (0 : Int32) dL .null := f1160.keep K1067q (ninS ne1165 nin0)
      have f1167 : Arv Z h1076 aD dK (.object "java/lang/Object") (0 : Int32) dL .null := f1166.ext E1076
      have le1168 : (h0).size ≤ (h1052).size := (Nat.le_trans le1164 E1052.1)
      have le1169 : (h0).size ≤ (T1054.heap).size := (Nat.le_trans le1168 K1054q.1)
      have le1170 : (h0).size ≤ (T1067.heap).size := (Nat.le_trans le1169 K1067q.1)
      have ne1171 : aD ≠ b1076 := (Nat.ne_of_lt (Nat.lt_of_lt_of_le (Nat.lt_of_lt_of_le PD1.lt le1170) (Nat.le_of_eq g1076.symm)))
      have f1172 : Arv Z T1080.heap aD dK (.object "java/lang/Object") (0 : Int32) dL .null := f1167.keep K1080q (ninS ne1171 nin0)
      have f1173 : Exa Z h1052 b1017 "com/example/quaymark/quaymark/Review$LeftOut" := q1037_0.ext E1052
      have f1174 : Exa Z T1054.heap b1017 "com/example/quaymark/quaymark/Review$LeftOut" := f1173.keep K1054q
      have f1175 : Exa Z T1067.heap b1017 "com/example/quaymark/quaymark/Review$LeftOut" := f1174.keep K1067q
      have f1176 : Exa Z h1076 b1017 "com/example/quaymark/quaymark/Review$LeftOut" := f1175.ext E1076
      have f1177 : Exa Z T1080.heap b1017 "com/example/quaymark/quaymark/Review$LeftOut" := f1176.keep K1080q
      have f1178 : Old Z Z.heap.size T1080.heap := f1083.keep K1080q (allS gz1081 all0)
      have f1179 : CHr Z EL s.vm s.heap T1054.vm h1076 := f1085.trans (CHr.ext E1076 f1085.1)
      have f1180 : Safe Z EL T1054.vm T1080.heap b1076 := Safe.keep K1080q (sfS f1086 sf0) f1179.1 f1086
      refine g_if X1080 hx hZ1054 hown1054 (wd177 hw) (wd178 hw) (wd179 hw) rfl (wd180 hw) (wd181 hw) (wd182 hw) (wd183 hw) (wd184 hw) (by decide) q1080_0 rfl (Con.back (W := 0) (rm_add1a l Z a0 hw zC SC PC aE SE aD SD aM SM mO MO b1076 b1017 dK dL T1080.heap f1178 q1080_0 q1080_2 q1080_3 gz1081 f1145 f1172 f1177 q1080_1) hZ1054 (wd185 hw) (wd46 hw) (by decide) (by decide)) (by rw [hml]; rfl) (lenOf pd20 rfl) rfl (Nat.le_of_eq rfl) (hb hby at_138) (q := 143) rfl (by decide) (by decide) ?_
      intro v1132 T1132 L1132 X1132 Q1132
      obtain ⟨r_1132, kr_1132, rfl, Nq1132, K1132q, q1132_0, q1132_1, q1132_2, q1132_3, q1132_4, q1132_5, q1132_6, q1132_7⟩ := Q1132
      have N1132 := Fr.app N1080 Nq1132
      show Go _ _ _ _ (T1132.setTop (mkF m 143 #[.val (.int p0), .val (.int p1), .val (.int p2), .val (.int p3), .val (.int p4), .val (.int p5), .val (.ref r_626), .val ov627, .val ov637, .val (.ref r_680), .val (.int (1 : Int32)), .val (.ref b1017), .val (.ref b1052), .val (.ref b1076), .unset, .unset, .unset, .unset] [(.int (1 : Int32))]))
      refine g_pop X1132 hx (hb hby at_143) (q := 144) rfl rfl ?_
      refine iLw X1132 hx (hb hby at_144) (q := 146) rfl rfl ?_
      refine cI X1132 hx (hb hby at_146) (q := 147) rfl (z := (2 : Int32)) rfl ?_
      refine icY X1132 hx (hb hby at_147) (q := 160) (by decide) (by decide) (by decide) ?_
      refine g_new X1132 hx hZ1054 hown1054 (wd68 hw) (wd69 hw) (wd70 hw) (by decide) (by decide) rfl (hb hby at_160) (q := 163) rfl ?_
      intro T1181 h1181 b1181 g1181 X1181 e1181 E1181 A1181 D1181
      have sf1182 : Safe Z EL T1054.vm T1132.heap b1181 := Safe.new (Nat.le_of_eq g1181.symm)
      have F1181_105 := D1181 (Or.inr (wd105 hw)) (ty := (.object "java/lang/String")) (by decide)
      have F1181_107 := D1181 (Or.inr (wd107 hw)) (ty := (.object "java/util/List")) (by decide)
      have F1181_109 := D1181 (Or.inr (wd109 hw)) (ty := (.object "java/lang/String")) (by decide)
      have F1181_111 := D1181 (Or.inr (wd111 hw)) (ty := (.object "com/example/quaymark/quaymark/Review$Withdrawal")) (by decide)
      refine g_dup X1181 hx (hb hby at_163) (q := 164) rfl rfl ?_
      refine aLw X1181 hx (hb hby at_164) (q := 166) rfl rfl rfl ?_
      refine aLw X1181 hx (hb hby at_166) (q := 168) rfl rfl rfl ?_
      refine aLw X1181 hx (hb hby at_168) (q := 170) rfl rfl r627 ?_
      refine aLw X1181 hx (hb hby at_170) (q := 172) rfl rfl r637 ?_
      have f1199 : Old Z Z.heap.size T1132.heap := f1178.keep K1132q (allS gz1081 all0)
      have gz1198 : Z.heap.size ≤ b1181 := Nat.le_trans f1199.2.1 (Nat.le_of_eq g1181.symm)
      have f1200 : Exa Z h1181 b1076 "java/util/ArrayList" := q1132_0.ext E1181
      have f1201 : Fld Z h1181 b1076 "java/util/ArrayList" "size" "I" (.int (1 : Int32)) := q1132_1.ext E1181
      have f1202 : Fld Z h1181 b1076 "java/util/ArrayList" "elementData" "[Ljava/lang/Object;" (.ref r_1132) := q1132_2.ext E1181
      have f1203 : Arv Z h1181 r_1132 kr_1132 (.object "java/lang/Object") (10 : Int32) [(.ref b1017), .null, .null, .null, .null, .null, .null, .null, .null, .null] .null := q1132_4.ext E1181
      have f1204 : Exa Z h1181 r_1132 "[Ljava/lang/Object;" := q1132_5.ext E1181
      have f1205 : Exa Z T1132.heap b1017 "com/example/quaymark/quaymark/Review$LeftOut" := f1177.keep K1132q
      have f1206 : Exa Z h1181 b1017 "com/example/quaymark/quaymark/Review$LeftOut" := f1205.ext E1181
      have f1207 : Old Z Z.heap.size h1181 := f1199.ext E1181
      have f1208 : CHr Z EL s.vm s.heap T1054.vm T1080.heap := f1179.trans (CHr.keep K1080q (sfS f1086 sf0) f1179.1)
      have f1209 : CHr Z EL s.vm s.heap T1054.vm T1132.heap := f1208.trans (CHr.keep K1132q (sfS f1180 sf0) f1208.1)
      have f1210 : Safe Z EL T1054.vm h1181 b1181 := Safe.ext E1181 f1209.1 sf1182
      refine g_sp X1181 hx hZ1054 hown1054 (wd71 hw) (wd72 hw) (wd73 hw) rfl (by decide) e1181 (Con.back (W := 1) (rm_rv1 l Z a0 hw zC SC PC aE SE aD SD aM SM mO MO b1181 r_626 ov627 ov637 b1076 r_1132 kr_1132 b1017 h1181 f1207 A1181 F1181_105 F1181_107 F1181_109 F1181_111 gz1198 r627 r637 f1200 f1201 f1202 f1203 f1204 f1206) hZ1054 (wd73 hw) (wd70 hw) (by decide) (by decide)) (by rw [hml]; rfl) (lenOf pd21 rfl) rfl (Nat.le_of_eq rfl) (hb hby at_172) (q := 175) rfl (by decide) (by decide) ?_
      intro v1197 T1197 L1197 X1197 Q1197
      obtain ⟨q_1197, rfl, Nq1197, K1197q, q1197_0, q1197_1, q1197_2, q1197_3, q1197_4, q1197_5, q1197_6, q1197_7, q1197_8⟩ := Q1197
      have N1197 := Fr.app N1132 Nq1197
      show Go _ _ _ _ (T1197.setTop (mkF m 175 #[.val (.int p0), .val (.int p1), .val (.int p2), .val (.int p3), .val (.int p4), .val (.int p5), .val (.ref r_626), .val ov627, .val ov637, .val (.ref r_680), .val (.int (1 : Int32)), .val (.ref b1017), .val (.ref b1052), .val (.ref b1076), .unset, .unset, .unset, .unset] [(.ref b1181)]))
      refine sAw X1197 hx (hb hby at_175) (q := 177) rfl rfl (Ls' := #[.val (.int p0), .val (.int p1), .val (.int p2), .val (.int p3), .val (.int p4), .val (.int p5), .val (.ref r_626), .val ov627, .val ov637, .val (.ref r_680), .val (.int (1 : Int32)), .val (.ref b1017), .val (.ref b1052), .val (.ref b1076), .val (.ref b1181), .unset, .unset, .unset]) rfl ?_
      refine aLw X1197 hx (hb hby at_177) (q := 179) rfl rfl rfl ?_
      refine aLw X1197 hx (hb hby at_179) (q := 181) rfl rfl rfl ?_
      have f1212 : Old Z Z.heap.size T1197.heap := f1207.keep K1197q (allS gz1198 all0)
      refine g_vi X1197 hx hZ1054 hown1054 (wd112 hw) (wd113 hw) (notFace_of_selects (args := #[]) (mvT hZ1054 (wd115 hw))) (wd115 hw) (wd114 hw) (by decide) q1197_0 rfl (Con.back (W := 0) (rm_sgnL l Z a0 hw zC SC PC aE SE aD SD aM SM mO MO b1181 r_626 (.ref r_680) q_1197 T1197.heap f1212 q1197_1 q1197_2 q1197_6 rfl) hZ1054 (wd116 hw) (wd70 hw) (by decide) (by decide)) (by rw [hml]; rfl) (lenOf pd25 rfl) rfl (Nat.le_of_eq rfl) (hb hby at_181) (q := 184) rfl (by decide) (by decide) ?_
      intro v1211 T1211 L1211 X1211 Q1211
      obtain ⟨r_1211, rfl, Nq1211, K1211q, q1211_0, q1211_1, q1211_2, q1211_3, q1211_4, q1211_5⟩ := Q1211
      have N1211 := Fr.app N1197 Nq1211
      show Go _ _ _ _ (T1211.setTop (mkF m 184 #[.val (.int p0), .val (.int p1), .val (.int p2), .val (.int p3), .val (.int p4), .val (.int p5), .val (.ref r_626), .val ov627, .val ov637, .val (.ref r_680), .val (.int (1 : Int32)), .val (.ref b1017), .val (.ref b1052), .val (.ref b1076), .val (.ref b1181), .unset, .unset, .unset] [(.ref r_1211)]))
      refine sAw X1211 hx (hb hby at_184) (q := 186) rfl rfl (Ls' := #[.val (.int p0), .val (.int p1), .val (.int p2), .val (.int p3), .val (.int p4), .val (.int p5), .val (.ref r_626), .val ov627, .val ov637, .val (.ref r_680), .val (.int (1 : Int32)), .val (.ref b1017), .val (.ref b1052), .val (.ref b1076), .val (.ref b1181), .val (.ref r_1211), .unset, .unset]) rfl ?_
      refine aLw X1211 hx (hb hby at_186) (q := 188) rfl rfl rfl ?_
      have f1214 : Old Z Z.heap.size T1211.heap := f1212.keep K1211q all0
      refine g_vi X1211 hx hZ1054 hown1054 (wd127 hw) (wd128 hw) (notFace_of_selects (args := #[]) (mvT hZ1054 (wd130 hw))) (wd130 hw) (wd129 hw) (by decide) q1211_1 rfl (Con.back (W := 0) (rm_get_leftOut l Z a0 hw zC SC PC aE SE aD SD aM SM mO MO r_1211 q_1197 T1211.heap f1214 q1211_3) hZ1054 (wd131 hw) (wd70 hw) (by decide) (by decide)) (by rw [hml]; rfl) (lenOf pd14 rfl) rfl (Nat.le_of_eq rfl) (hb hby at_188) (q := 191) rfl (by decide) (by decide) ?_
      intro v1213 T1213 L1213 X1213 Q1213
      obtain ⟨rfl, Nq1213, e1213⟩ := Q1213
      have N1213 := Fr.app N1211 Nq1213
      show Go _ _ _ _ (T1213.setTop (mkF m 191 #[.val (.int p0), .val (.int p1), .val (.int p2), .val (.int p3), .val (.int p4), .val (.int p5), .val (.ref r_626), .val ov627, .val ov637, .val (.ref r_680), .val (.int (1 : Int32)), .val (.ref b1017), .val (.ref b1052), .val (.ref b1076), .val (.ref b1181), .val (.ref r_1211), .unset, .unset] [(.ref q_1197)]))
      refine sAw X1213 hx (hb hby at_191) (q := 193) rfl rfl (Ls' := #[.val (.int p0), .val (.int p1), .val (.int p2), .val (.int p3), .val (.int p4), .val (.int p5), .val (.ref r_626), .val ov627, .val ov637, .val (.ref r_680), .val (.int (1 : Int32)), .val (.ref b1017), .val (.ref b1052), .val (.ref b1076), .val (.ref b1181), .val (.ref r_1211), .val (.ref q_1197), .unset]) rfl ?_
      refine aLw X1213 hx (hb hby at_193) (q := 195) rfl rfl rfl ?_
      have f1217 : Fld Z T1211.heap q_1197 "java/util/ImmutableCollections$List12" "e1" "Ljava/lang/Object;" (.ref aM) := q1197_8.keep K1211q nin0
      have f1218 : Exa Z T1211.heap q_1197 "java/util/ImmutableCollections$List12" := q1197_6.keep K1211q
      refine g_if X1213 hx hZ1054 hown1054 (wd132 hw) (wd133 hw) (wd134 hw) rfl (wd274 hw) (wd275 hw) (wd276 hw) (wd277 hw) (wd273 hw) (by decide) f1218 e1213 (Con.back (W := 0) (rm_size1 l Z a0 hw zC SC PC aE SE aD SD aM SM mO MO q_1197 T1211.heap f1214 f1217) hZ1054 (wd278 hw) (wd245 hw) (by decide) (by decide)) (by rw [hml]; rfl) (lenOf pd26 rfl) rfl (Nat.le_of_eq rfl) (hb hby at_195) (q := 200) rfl (by decide) (by decide) ?_
      intro v1216 T1216 L1216 X1216 Q1216
      obtain ⟨rfl, Nq1216, e1216⟩ := Q1216
      have N1216 := Fr.app N1213 Nq1216
      show Go _ _ _ _ (T1216.setTop (mkF m 200 #[.val (.int p0), .val (.int p1), .val (.int p2), .val (.int p3), .val (.int p4), .val (.int p5), .val (.ref r_626), .val ov627, .val ov637, .val (.ref r_680), .val (.int (1 : Int32)), .val (.ref b1017), .val (.ref b1052), .val (.ref b1076), .val (.ref b1181), .val (.ref r_1211), .val (.ref q_1197), .unset] [(.int (1 : Int32))]))
      refine iLw X1216 hx (hb hby at_200) (q := 202) rfl rfl ?_
      refine icN X1216 hx (hb hby at_202) (q := 205) rfl (by decide) ?_
      refine iLw X1216 hx (hb hby at_205) (q := 207) rfl rfl ?_
      refine cI X1216 hx (hb hby at_207) (q := 208) rfl (z := (1 : Int32)) rfl ?_
      refine icN X1216 hx (hb hby at_208) (q := 211) rfl (by decide) ?_
      refine aLw X1216 hx (hb hby at_211) (q := 213) rfl rfl rfl ?_
      refine cI X1216 hx (hb hby at_213) (q := 214) rfl (z := (0 : Int32)) rfl ?_
      have f1221 : Fld Z T1211.heap q_1197 "java/util/ImmutableCollections$List12" "e0" "Ljava/lang/Object;" (.ref b1017) := q1197_7.keep K1211q nin0
      refine g_if X1216 hx hZ1054 hown1054 (wd279 hw) (wd280 hw) (wd281 hw) rfl (wd282 hw) (wd283 hw) (wd284 hw) (wd285 hw) (wd273 hw) (by decide) f1218 e1216 (Con.back (W := 0) (rm_get0 l Z a0 hw zC SC PC aE SE aD SD aM SM mO MO q_1197 b1017 T1211.heap f1214 f1221) hZ1054 (wd286 hw) (wd245 hw) (by decide) (by decide)) (by rw [hml]; rfl) (lenOf pd30 rfl) rfl (Nat.le_of_eq rfl) (hb hby at_214) (q := 219) rfl (by decide) (by decide) ?_
      intro v1220 T1220 L1220 X1220 Q1220
      obtain ⟨rfl, Nq1220, e1220⟩ := Q1220
      have N1220 := Fr.app N1216 Nq1220
      show Go _ _ _ _ (T1220.setTop (mkF m 219 #[.val (.int p0), .val (.int p1), .val (.int p2), .val (.int p3), .val (.int p4), .val (.int p5), .val (.ref r_626), .val ov627, .val ov637, .val (.ref r_680), .val (.int (1 : Int32)), .val (.ref b1017), .val (.ref b1052), .val (.ref b1076), .val (.ref b1181), .val (.ref r_1211), .val (.ref q_1197), .unset] [(.ref b1017)]))
      refine aLw X1220 hx (hb hby at_219) (q := 221) rfl rfl rfl ?_
      refine g_acmp X1220 hx (hb hby at_221) (q := 224) rfl rfl (same := true) (decide_eq_true rfl) (by decide) (by decide) ?_
      refine iLw X1220 hx (hb hby at_224) (q := 226) rfl rfl ?_
      refine cI X1220 hx (hb hby at_226) (q := 227) rfl (z := (2 : Int32)) rfl ?_
      refine icY X1220 hx (hb hby at_227) (q := 243) (by decide) (by decide) (by decide) ?_
      refine cI X1220 hx (hb hby at_243) (q := 244) rfl (z := (1 : Int32)) rfl ?_
      refine g_goto X1220 hx (hb hby at_244) (q := 248) (by decide) (by decide) ?_
      refine sIw X1220 hx (hb hby at_248) (q := 250) rfl (Ls' := #[.val (.int p0), .val (.int p1), .val (.int p2), .val (.int p3), .val (.int p4), .val (.int p5), .val (.ref r_626), .val ov627, .val ov637, .val (.ref r_680), .val (.int (1 : Int32)), .val (.ref b1017), .val (.ref b1052), .val (.ref b1076), .val (.ref b1181), .val (.ref r_1211), .val (.ref q_1197), .val (.int (1 : Int32))]) rfl ?_
      refine iLw X1220 hx (hb hby at_250) (q := 252) rfl rfl ?_
      refine ifN X1220 hx (hb hby at_252) (q := 255) rfl (by decide) ?_
      refine aLw X1220 hx (hb hby at_255) (q := 257) rfl rfl rfl ?_
      refine g_vi X1220 hx hZ1054 hown1054 (wd143 hw) (wd144 hw) (notFace_of_selects (args := #[]) (mvT hZ1054 (wd146 hw))) (wd146 hw) (wd145 hw) (by decide) q1211_1 e1220 (Con.back (W := 0) (rm_get_submittedBy l Z a0 hw zC SC PC aE SE aD SD aM SM mO MO r_1211 r_626 T1211.heap f1214 q1211_2) hZ1054 (wd147 hw) (wd70 hw) (by decide) (by decide)) (by rw [hml]; rfl) (lenOf pd27 rfl) rfl (Nat.le_of_eq rfl) (hb hby at_257) (q := 260) rfl (by decide) (by decide) ?_
      intro v1222 T1222 L1222 X1222 Q1222
      obtain ⟨rfl, Nq1222, e1222⟩ := Q1222
      have N1222 := Fr.app N1220 Nq1222
      show Go _ _ _ _ (T1222.setTop (mkF m 260 #[.val (.int p0), .val (.int p1), .val (.int p2), .val (.int p3), .val (.int p4), .val (.int p5), .val (.ref r_626), .val ov627, .val ov637, .val (.ref r_680), .val (.int (1 : Int32)), .val (.ref b1017), .val (.ref b1052), .val (.ref b1076), .val (.ref b1181), .val (.ref r_1211), .val (.ref q_1197), .val (.int (1 : Int32))] [(.ref r_626)]))
      refine aLw X1222 hx (hb hby at_260) (q := 262) rfl rfl rfl ?_
      have f1240 : Exa Z h627 r_626 "java/lang/String" := q626_1.keep K627q
      have f1241 : Exa Z h637 r_626 "java/lang/String" := f1240.keep K637q
      have f1242 : Exa Z T680.heap r_626 "java/lang/String" := f1241.keep K680q
      have f1243 : Exa Z h1017 r_626 "java/lang/String" := f1242.ext E1017
      have f1244 : Exa Z T1019.heap r_626 "java/lang/String" := f1243.keep K1019q
      have f1245 : Exa Z T1025.heap r_626 "java/lang/String" := f1244.keep K1025q
      have f1246 : Exa Z T1037.heap r_626 "java/lang/String" := f1245.keep K1037q
      have f1247 : Exa Z h1052 r_626 "java/lang/String" := f1246.ext E1052
      have f1248 : Exa Z T1054.heap r_626 "java/lang/String" := f1247.keep K1054q
      have f1249 : Exa Z T1067.heap r_626 "java/lang/String" := f1248.keep K1067q
      have f1250 : Exa Z h1076 r_626 "java/lang/String" := f1249.ext E1076
      have f1251 : Exa Z T1080.heap r_626 "java/lang/String" := f1250.keep K1080q
      have f1252 : Exa Z T1132.heap r_626 "java/lang/String" := f1251.keep K1132q
      have f1253 : Exa Z h1181 r_626 "java/lang/String" := f1252.ext E1181
      have f1254 : Exa Z T1197.heap r_626 "java/lang/String" := f1253.keep K1197q
      have f1255 : Exa Z T1211.heap r_626 "java/lang/String" := f1254.keep K1211q
      refine g_st X1222 hx hZ1054 hown1054 (wd148 hw) (wd149 hw) (wd2 hw) (wd150 hw) (by decide) e1222 (Con.back (W := 0) (rm_samer l Z a0 hw zC SC PC aE SE aD SD aM SM mO MO r_626 T1211.heap f1214 f1255) hZ1054 (wd150 hw) (wd2 hw) (by decide) (by decide)) (by rw [hml]; rfl) (lenOf pd28 rfl) rfl (Nat.le_of_eq rfl) (hb hby at_262) (q := 265) rfl (by decide) (by decide) ?_
      intro v1239 T1239 L1239 X1239 Q1239
      obtain ⟨rfl, Nq1239, e1239⟩ := Q1239
      have N1239 := Fr.app N1222 Nq1239
      show Go _ _ _ _ (T1239.setTop (mkF m 265 #[.val (.int p0), .val (.int p1), .val (.int p2), .val (.int p3), .val (.int p4), .val (.int p5), .val (.ref r_626), .val ov627, .val ov637, .val (.ref r_680), .val (.int (1 : Int32)), .val (.ref b1017), .val (.ref b1052), .val (.ref b1076), .val (.ref b1181), .val (.ref r_1211), .val (.ref q_1197), .val (.int (1 : Int32))] [(.int (1 : Int32))]))
      refine ifN X1239 hx (hb hby at_265) (q := 268) rfl (by decide) ?_
      refine aLw X1239 hx (hb hby at_268) (q := 270) rfl rfl rfl ?_
      refine g_vi X1239 hx hZ1054 hown1054 (wd156 hw) (wd157 hw) (notFace_of_selects (args := #[]) (mvT hZ1054 (wd159 hw))) (wd159 hw) (wd158 hw) (by decide) q1211_1 e1239 (Con.back (W := 0) (rm_get_signedOffBy l Z a0 hw zC SC PC aE SE aD SD aM SM mO MO r_1211 (.ref r_680) T1211.heap f1214 q1211_4 rfl) hZ1054 (wd160 hw) (wd70 hw) (by decide) (by decide)) (by rw [hml]; rfl) (lenOf pd27 rfl) rfl (Nat.le_of_eq rfl) (hb hby at_270) (q := 273) rfl (by decide) (by decide) ?_
      intro v1256 T1256 L1256 X1256 Q1256
      obtain ⟨rfl, Nq1256, e1256⟩ := Q1256
      have N1256 := Fr.app N1239 Nq1256
      show Go _ _ _ _ (T1256.setTop (mkF m 273 #[.val (.int p0), .val (.int p1), .val (.int p2), .val (.int p3), .val (.int p4), .val (.int p5), .val (.ref r_626), .val ov627, .val ov637, .val (.ref r_680), .val (.int (1 : Int32)), .val (.ref b1017), .val (.ref b1052), .val (.ref b1076), .val (.ref b1181), .val (.ref r_1211), .val (.ref q_1197), .val (.int (1 : Int32))] [(.ref r_680)]))
      refine aLw X1256 hx (hb hby at_273) (q := 275) rfl rfl rfl ?_
      have f1271 : Exa Z h1017 r_680 "java/lang/String" := q680_1.ext E1017
      have f1272 : Exa Z T1019.heap r_680 "java/lang/String" := f1271.keep K1019q
      have f1273 : Exa Z T1025.heap r_680 "java/lang/String" := f1272.keep K1025q
      have f1274 : Exa Z T1037.heap r_680 "java/lang/String" := f1273.keep K1037q
      have f1275 : Exa Z h1052 r_680 "java/lang/String" := f1274.ext E1052
      have f1276 : Exa Z T1054.heap r_680 "java/lang/String" := f1275.keep K1054q
      have f1277 : Exa Z T1067.heap r_680 "java/lang/String" := f1276.keep K1067q
      have f1278 : Exa Z h1076 r_680 "java/lang/String" := f1277.ext E1076
      have f1279 : Exa Z T1080.heap r_680 "java/lang/String" := f1278.keep K1080q
      have f1280 : Exa Z T1132.heap r_680 "java/lang/String" := f1279.keep K1132q
      have f1281 : Exa Z h1181 r_680 "java/lang/String" := f1280.ext E1181
      have f1282 : Exa Z T1197.heap r_680 "java/lang/String" := f1281.keep K1197q
      have f1283 : Exa Z T1211.heap r_680 "java/lang/String" := f1282.keep K1211q
      refine g_st X1256 hx hZ1054 hown1054 (wd148 hw) (wd149 hw) (wd2 hw) (wd150 hw) (by decide) e1256 (Con.back (W := 0) (rm_samer l Z a0 hw zC SC PC aE SE aD SD aM SM mO MO r_680 T1211.heap f1214 f1283) hZ1054 (wd150 hw) (wd2 hw) (by decide) (by decide)) (by rw [hml]; rfl) (lenOf pd28 rfl) rfl (Nat.le_of_eq rfl) (hb hby at_275) (q := 278) rfl (by decide) (by decide) ?_
      intro v1270 T1270 L1270 X1270 Q1270
      obtain ⟨rfl, Nq1270, e1270⟩ := Q1270
      have N1270 := Fr.app N1256 Nq1270
      show Go _ _ _ _ (T1270.setTop (mkF m 278 #[.val (.int p0), .val (.int p1), .val (.int p2), .val (.int p3), .val (.int p4), .val (.int p5), .val (.ref r_626), .val ov627, .val ov637, .val (.ref r_680), .val (.int (1 : Int32)), .val (.ref b1017), .val (.ref b1052), .val (.ref b1076), .val (.ref b1181), .val (.ref r_1211), .val (.ref q_1197), .val (.int (1 : Int32))] [(.int (1 : Int32))]))
      refine ifN X1270 hx (hb hby at_278) (q := 281) rfl (by decide) ?_
      refine aLw X1270 hx (hb hby at_281) (q := 283) rfl rfl rfl ?_
      refine g_vi X1270 hx hZ1054 hown1054 (wd161 hw) (wd162 hw) (notFace_of_selects (args := #[]) (mvT hZ1054 (wd164 hw))) (wd164 hw) (wd163 hw) (by decide) q1211_1 e1270 (Con.back (W := 0) (rm_get_withdrawn l Z a0 hw zC SC PC aE SE aD SD aM SM mO MO r_1211 T1211.heap f1214 q1211_5) hZ1054 (wd165 hw) (wd70 hw) (by decide) (by decide)) (by rw [hml]; rfl) (lenOf pd29 rfl) rfl (Nat.le_of_eq rfl) (hb hby at_283) (q := 286) rfl (by decide) (by decide) ?_
      intro v1284 T1284 L1284 X1284 Q1284
      obtain ⟨rfl, Nq1284, e1284⟩ := Q1284
      have N1284 := Fr.app N1270 Nq1284
      show Go _ _ _ _ (T1284.setTop (mkF m 286 #[.val (.int p0), .val (.int p1), .val (.int p2), .val (.int p3), .val (.int p4), .val (.int p5), .val (.ref r_626), .val ov627, .val ov637, .val (.ref r_680), .val (.int (1 : Int32)), .val (.ref b1017), .val (.ref b1052), .val (.ref b1076), .val (.ref b1181), .val (.ref r_1211), .val (.ref q_1197), .val (.int (1 : Int32))] [.null]))
      refine nnN X1284 hx (hb hby at_286) (q := 289) rfl ?_
      refine cI X1284 hx (hb hby at_289) (q := 290) rfl (z := (1 : Int32)) rfl ?_
      refine g_goto X1284 hx (hb hby at_290) (q := 294) (by decide) (by decide) ?_
      have le1285 : (T1054.heap).size ≤ (T1067.heap).size := K1067q.1
      have le1286 : (T1054.heap).size ≤ (h1076).size := (Nat.le_trans le1285 E1076.1)
      have le1287 : (T1054.heap).size ≤ (T1080.heap).size := (Nat.le_trans le1286 K1080q.1)
      have le1288 : (T1054.heap).size ≤ (T1132.heap).size := (Nat.le_trans le1287 K1132q.1)
      have le1289 : (T1054.heap).size ≤ (h1181).size := (Nat.le_trans le1288 E1181.1)
      have le1290 : (T1054.heap).size ≤ (T1197.heap).size := (Nat.le_trans le1289 K1197q.1)
      have le1291 : (T1054.heap).size ≤ (T1211.heap).size := (Nat.le_trans le1290 K1211q.1)
      have f1292 : CHr Z EL s.vm s.heap T1054.vm h1181 := f1209.trans (CHr.ext E1181 f1209.1)
      have f1293 : CHr Z EL s.vm s.heap T1054.vm T1197.heap := f1292.trans (CHr.keep K1197q (sfS f1210 sf0) f1292.1)
      have f1294 : CHr Z EL s.vm s.heap T1054.vm T1211.heap := f1293.trans (CHr.keep K1211q sf0 f1293.1)
      refine endC X1284 hlk hS1054 (by rw [e1284]; exact (Nat.le_trans (Nat.le_refl _) le1291)) hZ1054 (own_EW hw) (by rw [e1284]; exact f1294) (fun h => by rw [hret] at h; cases h) (lastN X1284 hx (t := .boolean) (z' := (1 : Int32)) hret (by simp) (by decide) (hb hby at_294)) ?_ (by decide) (by decide)
      rw [e1284]
      exact ⟨rfl, N1284, trivial⟩
    · rw [hk686]
      show Go _ _ _ _ (T680.setTop (mkF m 76 #[.val (.int p0), .val (.int p1), .val (.int p2), .val (.int p3), .val (.int p4), .val (.int p5), .val (.ref r_626), .val ov627, .val ov637, .val (.ref r_680), .unset, .unset, .unset, .unset, .unset, .unset, .unset, .unset] [(.int (2 : Int32))]))
      refine sIw X680 hx (hb hby at_76) (q := 78) rfl (Ls' := #[.val (.int p0), .val (.int p1), .val (.int p2), .val (.int p3), .val (.int p4), .val (.int p5), .val (.ref r_626), .val ov627, .val ov637, .val (.ref r_680), .val (.int (2 : Int32)), .unset, .unset, .unset, .unset, .unset, .unset, .unset]) rfl ?_
      refine g_new X680 hx hZ680 hown680 (wd26 hw) (wd27 hw) (wd28 hw) (by decide) (by decide) rfl (hb hby at_78) (q := 81) rfl ?_
      intro T1295 h1295 b1295 g1295 X1295 e1295 E1295 A1295 D1295
      have sf1296 : Safe Z EL T680.vm T680.heap b1295 := Safe.new (Nat.le_of_eq g1295.symm)
      have F1295_39 := D1295 (Or.inr (wd39 hw)) (ty := .int) (by decide)
      have F1295_41 := D1295 (Or.inr (wd41 hw)) (ty := (.object "java/lang/String")) (by decide)
      have F1295_43 := D1295 (Or.inr (wd43 hw)) (ty := (.object "java/lang/String")) (by decide)
      refine g_dup X1295 hx (hb hby at_81) (q := 82) rfl rfl ?_
      refine iLw X1295 hx (hb hby at_82) (q := 84) rfl rfl ?_
      refine iLw X1295 hx (hb hby at_84) (q := 86) rfl rfl ?_
      have f1298 : Old Z Z.heap.size T680.heap := f683.keep K680q all0
      have f1299 : Old Z Z.heap.size h1295 := f1298.ext E1295
      have f1300 : CHr Z EL s.vm s.heap T680.vm T680.heap := C637.trans R680
      have f1301 : CHr Z EL s.vm s.heap T680.vm h1295 := f1300.trans (CHr.ext E1295 f1300.1)
      have le1302 : (T680.heap).size ≤ (h1295).size := E1295.1
      refine g_stS X1295 hx hZ680 hown680 hS680 (Nat.le_trans (Nat.le_refl _) le1302) (wd0 hw) (wd1 hw) (wd2 hw) (wd3 hw) (by decide) e1295 (ConS.back (W := 3) (rm_str l Z a0 hw zC SC PC aE SE aD SD aM SM mO MO p5 h1295 f1299 ) hZ680 (wd3 hw) (wd2 hw) (by decide) (by decide) (own_EW hw) f1301.1 sf0 all0) (by rw [hml]; rfl) (lenOf pd22 rfl) rfl (Nat.le_of_eq rfl) (hb hby at_86) (q := 89) rfl (by decide) (by decide) ?_
      rintro v1297 T1297 L1297 ⟨X1297, hS1297, hZ1297, hown1297, R1297⟩ Q1297
      obtain ⟨r_1297, rfl, Nq1297, K1297q, q1297_0, q1297_1⟩ := Q1297
      have N1297 := Fr.app N680 Nq1297
      show Go _ _ _ _ (T1297.setTop (mkF m 89 #[.val (.int p0), .val (.int p1), .val (.int p2), .val (.int p3), .val (.int p4), .val (.int p5), .val (.ref r_626), .val ov627, .val ov637, .val (.ref r_680), .val (.int (2 : Int32)), .unset, .unset, .unset, .unset, .unset, .unset, .unset] [(.ref r_1297), (.int p4), (.ref b1295), (.ref b1295)]))
      refine iL X1297 hx (hb hby at_89) (q := 90) rfl rfl ?_
      refine bI X1297 hx (hb hby at_90) (q := 92) rfl (z := (16 : Int32)) rfl ?_
      refine g_iushr X1297 hx (hb hby at_92) (q := 93) rfl rfl ?_
      have f1304 : Old Z Z.heap.size T1297.heap := f1299.keep K1297q all0
      have f1305 : CHr Z EL s.vm s.heap T1297.vm T1297.heap := f1301.trans R1297
      refine g_stS X1297 hx hZ1297 hown1297 hS1297 (Nat.le_trans (Nat.le_refl _) (Nat.le_refl _)) (wd0 hw) (wd1 hw) (wd2 hw) (wd3 hw) (by decide) rfl (ConS.back (W := 4) (rm_str l Z a0 hw zC SC PC aE SE aD SD aM SM mO MO ((p0.toUInt32 >>> ((16 : Int32) &&& 31).toUInt32).toInt32) T1297.heap f1304 ) hZ1297 (wd3 hw) (wd2 hw) (by decide) (by decide) (own_EW hw) f1305.1 sf0 all0) (by rw [hml]; rfl) (lenOf pd22 rfl) rfl (Nat.le_of_eq rfl) (hb hby at_93) (q := 96) rfl (by decide) (by decide) ?_
      rintro v1303 T1303 L1303 ⟨X1303, hS1303, hZ1303, hown1303, R1303⟩ Q1303
      obtain ⟨r_1303, rfl, Nq1303, K1303q, q1303_0, q1303_1⟩ := Q1303
      have N1303 := Fr.app N1297 Nq1303
      show Go _ _ _ _ (T1303.setTop (mkF m 96 #[.val (.int p0), .val (.int p1), .val (.int p2), .val (.int p3), .val (.int p4), .val (.int p5), .val (.ref r_626), .val ov627, .val ov637, .val (.ref r_680), .val (.int (2 : Int32)), .unset, .unset, .unset, .unset, .unset, .unset, .unset] [(.ref r_1303), (.ref r_1297), (.int p4), (.ref b1295), (.ref b1295)]))
      have f1316 : Exa Z T1297.heap b1295 "com/example/quaymark/quaymark/Review$LeftOut" := A1295.keep K1297q
      have f1317 : Exa Z T1303.heap b1295 "com/example/quaymark/quaymark/Review$LeftOut" := f1316.keep K1303q
      have f1318 : Fld Z T1297.heap b1295 "com/example/quaymark/quaymark/Review$LeftOut" "line" "I" (.int (0 : Int32)) := F1295_39.keep K1297q nin0
      have f1319 : Fld Z T1303.heap b1295 "com/example/quaymark/quaymark/Review$LeftOut" "line" "I" (.int (0 : Int32)) := f1318.keep K1303q nin0
      have f1320 : Fld Z T1297.heap b1295 "com/example/quaymark/quaymark/Review$LeftOut" "reason" "Ljava/lang/String;" .null := F1295_41.keep K1297q nin0
      have f1321 : Fld Z T1303.heap b1295 "com/example/quaymark/quaymark/Review$LeftOut" "reason" "Ljava/lang/String;" .null := f1320.keep K1303q nin0
      have f1322 : Fld Z T1297.heap b1295 "com/example/quaymark/quaymark/Review$LeftOut" "by" "Ljava/lang/String;" .null := F1295_43.keep K1297q nin0
      have f1323 : Fld Z T1303.heap b1295 "com/example/quaymark/quaymark/Review$LeftOut" "by" "Ljava/lang/String;" .null := f1322.keep K1303q nin0
      have gz1324 : Z.heap.size ≤ b1295 := Nat.le_trans f1298.2.1 (Nat.le_of_eq g1295.symm)
      have f1325 : Old Z Z.heap.size T1303.heap := f1304.keep K1303q all0
      have f1326 : Safe Z EL T680.vm h1295 b1295 := Safe.ext E1295 f1300.1 sf1296
      have f1327 : Safe Z EL T1297.vm T1297.heap b1295 := R1297.safe (Nat.lt_of_lt_of_le A1295.lt (Nat.le_refl _)) f1326
      have le1328 : (h1295).size ≤ (T1297.heap).size := K1297q.1
      have f1329 : Safe Z EL T1303.vm T1303.heap b1295 := R1303.safe (Nat.lt_of_lt_of_le A1295.lt le1328) f1327
      refine g_sp X1303 hx hZ1303 hown1303 (wd29 hw) (wd30 hw) (wd31 hw) rfl (by decide) rfl (Con.back (W := 1) (rm_loinit l Z a0 hw zC SC PC aE SE aD SD aM SM mO MO b1295 p4 r_1297 r_1303 T1303.heap f1325 f1317 f1319 f1321 f1323 gz1324) hZ1303 (wd31 hw) (wd28 hw) (by decide) (by decide)) (by rw [hml]; rfl) (lenOf pd24 rfl) rfl (Nat.le_of_eq rfl) (hb hby at_96) (q := 99) rfl (by decide) (by decide) ?_
      intro v1315 T1315 L1315 X1315 Q1315
      obtain ⟨rfl, Nq1315, K1315q, q1315_0⟩ := Q1315
      have N1315 := Fr.app N1303 Nq1315
      show Go _ _ _ _ (T1315.setTop (mkF m 99 #[.val (.int p0), .val (.int p1), .val (.int p2), .val (.int p3), .val (.int p4), .val (.int p5), .val (.ref r_626), .val ov627, .val ov637, .val (.ref r_680), .val (.int (2 : Int32)), .unset, .unset, .unset, .unset, .unset, .unset, .unset] [(.ref b1295)]))
      refine sAw X1315 hx (hb hby at_99) (q := 101) rfl rfl (Ls' := #[.val (.int p0), .val (.int p1), .val (.int p2), .val (.int p3), .val (.int p4), .val (.int p5), .val (.ref r_626), .val ov627, .val ov637, .val (.ref r_680), .val (.int (2 : Int32)), .val (.ref b1295), .unset, .unset, .unset, .unset, .unset, .unset]) rfl ?_
      refine g_new X1315 hx hZ1303 hown1303 (wd26 hw) (wd27 hw) (wd28 hw) (by decide) (by decide) rfl (hb hby at_101) (q := 104) rfl ?_
      intro T1330 h1330 b1330 g1330 X1330 e1330 E1330 A1330 D1330
      have sf1331 : Safe Z EL T1303.vm T1315.heap b1330 := Safe.new (Nat.le_of_eq g1330.symm)
      have F1330_39 := D1330 (Or.inr (wd39 hw)) (ty := .int) (by decide)
      have F1330_41 := D1330 (Or.inr (wd41 hw)) (ty := (.object "java/lang/String")) (by decide)
      have F1330_43 := D1330 (Or.inr (wd43 hw)) (ty := (.object "java/lang/String")) (by decide)
      refine g_dup X1330 hx (hb hby at_104) (q := 105) rfl rfl ?_
      refine iLw X1330 hx (hb hby at_105) (q := 107) rfl rfl ?_
      refine iLw X1330 hx (hb hby at_107) (q := 109) rfl rfl ?_
      have f1333 : Old Z Z.heap.size T1315.heap := f1325.keep K1315q (allS gz1324 all0)
      have f1334 : Old Z Z.heap.size h1330 := f1333.ext E1330
      have f1335 : CHr Z EL s.vm s.heap T1303.vm T1303.heap := f1305.trans R1303
      have f1336 : CHr Z EL s.vm s.heap T1303.vm T1315.heap := f1335.trans (CHr.keep K1315q (sfS f1329 sf0) f1335.1)
      have f1337 : CHr Z EL s.vm s.heap T1303.vm h1330 := f1336.trans (CHr.ext E1330 f1336.1)
      have le1338 : (T1303.heap).size ≤ (T1315.heap).size := K1315q.1
      have le1339 : (T1303.heap).size ≤ (h1330).size := (Nat.le_trans le1338 E1330.1)
      refine g_stS X1330 hx hZ1303 hown1303 hS1303 (Nat.le_trans (Nat.le_refl _) le1339) (wd0 hw) (wd1 hw) (wd2 hw) (wd3 hw) (by decide) e1330 (ConS.back (W := 3) (rm_str l Z a0 hw zC SC PC aE SE aD SD aM SM mO MO p4 h1330 f1334 ) hZ1303 (wd3 hw) (wd2 hw) (by decide) (by decide) (own_EW hw) f1337.1 sf0 all0) (by rw [hml]; rfl) (lenOf pd22 rfl) rfl (Nat.le_of_eq rfl) (hb hby at_109) (q := 112) rfl (by decide) (by decide) ?_
      rintro v1332 T1332 L1332 ⟨X1332, hS1332, hZ1332, hown1332, R1332⟩ Q1332
      obtain ⟨r_1332, rfl, Nq1332, K1332q, q1332_0, q1332_1⟩ := Q1332
      have N1332 := Fr.app N1315 Nq1332
      show Go _ _ _ _ (T1332.setTop (mkF m 112 #[.val (.int p0), .val (.int p1), .val (.int p2), .val (.int p3), .val (.int p4), .val (.int p5), .val (.ref r_626), .val ov627, .val ov637, .val (.ref r_680), .val (.int (2 : Int32)), .val (.ref b1295), .unset, .unset, .unset, .unset, .unset, .unset] [(.ref r_1332), (.int p5), (.ref b1330), (.ref b1330)]))
      refine aLw X1332 hx (hb hby at_112) (q := 114) rfl rfl rfl ?_
      have f1346 : Exa Z T1332.heap b1330 "com/example/quaymark/quaymark/Review$LeftOut" := A1330.keep K1332q
      have f1347 : Fld Z T1332.heap b1330 "com/example/quaymark/quaymark/Review$LeftOut" "line" "I" (.int (0 : Int32)) := F1330_39.keep K1332q nin0
      have f1348 : Fld Z T1332.heap b1330 "com/example/quaymark/quaymark/Review$LeftOut" "reason" "Ljava/lang/String;" .null := F1330_41.keep K1332q nin0
      have f1349 : Fld Z T1332.heap b1330 "com/example/quaymark/quaymark/Review$LeftOut" "by" "Ljava/lang/String;" .null := F1330_43.keep K1332q nin0
      have gz1350 : Z.heap.size ≤ b1330 := Nat.le_trans f1333.2.1 (Nat.le_of_eq g1330.symm)
      have f1351 : Old Z Z.heap.size T1332.heap := f1334.keep K1332q all0
      have f1352 : Safe Z EL T1303.vm h1330 b1330 := Safe.ext E1330 f1336.1 sf1331
      have f1353 : Safe Z EL T1332.vm T1332.heap b1330 := R1332.safe (Nat.lt_of_lt_of_le A1330.lt (Nat.le_refl _)) f1352
      refine g_sp X1332 hx hZ1332 hown1332 (wd29 hw) (wd30 hw) (wd31 hw) rfl (by decide) rfl (Con.back (W := 1) (rm_loinit l Z a0 hw zC SC PC aE SE aD SD aM SM mO MO b1330 p5 r_1332 r_626 T1332.heap f1351 f1346 f1347 f1348 f1349 gz1350) hZ1332 (wd31 hw) (wd28 hw) (by decide) (by decide)) (by rw [hml]; rfl) (lenOf pd24 rfl) rfl (Nat.le_of_eq rfl) (hb hby at_114) (q := 117) rfl (by decide) (by decide) ?_
      intro v1345 T1345 L1345 X1345 Q1345
      obtain ⟨rfl, Nq1345, K1345q, q1345_0⟩ := Q1345
      have N1345 := Fr.app N1332 Nq1345
      show Go _ _ _ _ (T1345.setTop (mkF m 117 #[.val (.int p0), .val (.int p1), .val (.int p2), .val (.int p3), .val (.int p4), .val (.int p5), .val (.ref r_626), .val ov627, .val ov637, .val (.ref r_680), .val (.int (2 : Int32)), .val (.ref b1295), .unset, .unset, .unset, .unset, .unset, .unset] [(.ref b1330)]))
      refine sAw X1345 hx (hb hby at_117) (q := 119) rfl rfl (Ls' := #[.val (.int p0), .val (.int p1), .val (.int p2), .val (.int p3), .val (.int p4), .val (.int p5), .val (.ref r_626), .val ov627, .val ov637, .val (.ref r_680), .val (.int (2 : Int32)), .val (.ref b1295), .val (.ref b1330), .unset, .unset, .unset, .unset, .unset]) rfl ?_
      refine g_new X1345 hx hZ1332 hown1332 (wd44 hw) (wd45 hw) (wd46 hw) (by decide) (by decide) rfl (hb hby at_119) (q := 122) rfl ?_
      intro T1354 h1354 b1354 g1354 X1354 e1354 E1354 A1354 D1354
      have sf1355 : Safe Z EL T1332.vm T1345.heap b1354 := Safe.new (Nat.le_of_eq g1354.symm)
      have F1354_64 := D1354 (Or.inl (wd64 hw)) (ty := .int) (by decide)
      have F1354_67 := D1354 (Or.inl (wd67 hw)) (ty := (.array (.object "java/lang/Object"))) (by decide)
      have F1354_99 := D1354 (Or.inl (wd99 hw)) (ty := .int) (by decide)
      refine g_dup X1354 hx (hb hby at_122) (q := 123) rfl rfl ?_
      have f1360 : Old Z Z.heap.size T1345.heap := f1351.keep K1345q (allS gz1350 all0)
      have gz1359 : Z.heap.size ≤ b1354 := Nat.le_trans f1360.2.1 (Nat.le_of_eq g1354.symm)
      have f1361 : Old Z Z.heap.size h1354 := f1360.ext E1354
      have f1362 : CHr Z EL s.vm s.heap T1332.vm T1332.heap := f1337.trans R1332
      have f1363 : CHr Z EL s.vm s.heap T1332.vm T1345.heap := f1362.trans (CHr.keep K1345q (sfS f1353 sf0) f1362.1)
      have f1364 : Safe Z EL T1332.vm h1354 b1354 := Safe.ext E1354 f1363.1 sf1355
      refine g_sp X1354 hx hZ1332 hown1332 (wd47 hw) (wd48 hw) (wd49 hw) rfl (by decide) e1354 (Con.back (W := 1) (rm_alinit l Z a0 hw zC SC PC aE SE aD SD aM SM mO MO b1354 h1354 f1361 A1354 F1354_64 gz1359 F1354_99 F1354_67) hZ1332 (wd49 hw) (wd46 hw) (by decide) (by decide)) (by rw [hml]; rfl) (lenOf pd1 rfl) rfl (Nat.le_of_eq rfl) (hb hby at_123) (q := 126) rfl (by decide) (by decide) ?_
      intro v1358 T1358 L1358 X1358 Q1358
      obtain ⟨rfl, Nq1358, K1358q, q1358_0, q1358_1, q1358_2, q1358_3⟩ := Q1358
      have N1358 := Fr.app N1345 Nq1358
      show Go _ _ _ _ (T1358.setTop (mkF m 126 #[.val (.int p0), .val (.int p1), .val (.int p2), .val (.int p3), .val (.int p4), .val (.int p5), .val (.ref r_626), .val ov627, .val ov637, .val (.ref r_680), .val (.int (2 : Int32)), .val (.ref b1295), .val (.ref b1330), .unset, .unset, .unset, .unset, .unset] [(.ref b1354)]))
      refine sAw X1358 hx (hb hby at_126) (q := 128) rfl rfl (Ls' := #[.val (.int p0), .val (.int p1), .val (.int p2), .val (.int p3), .val (.int p4), .val (.int p5), .val (.ref r_626), .val ov627, .val ov637, .val (.ref r_680), .val (.int (2 : Int32)), .val (.ref b1295), .val (.ref b1330), .val (.ref b1354), .unset, .unset, .unset, .unset]) rfl ?_
      refine iLw X1358 hx (hb hby at_128) (q := 130) rfl rfl ?_
      refine cI X1358 hx (hb hby at_130) (q := 131) rfl (z := (1 : Int32)) rfl ?_
      refine icN X1358 hx (hb hby at_131) (q := 134) rfl (by decide) ?_
      refine aLw X1358 hx (hb hby at_134) (q := 136) rfl rfl rfl ?_
      refine aLw X1358 hx (hb hby at_136) (q := 138) rfl rfl rfl ?_
      have f1411 : Exa Z T626.heap aD "[Ljava/lang/Object;" := PD1.keep K626q
      have f1412 : Exa Z h627 aD "[Ljava/lang/Object;" := f1411.keep K627q
      have f1413 : Exa Z h637 aD "[Ljava/lang/Object;" := f1412.keep K637q
      have f1414 : Exa Z T680.heap aD "[Ljava/lang/Object;" := f1413.keep K680q
      have f1415 : Exa Z h1295 aD "[Ljava/lang/Object;" := f1414.ext E1295
      have f1416 : Exa Z T1297.heap aD "[Ljava/lang/Object;" := f1415.keep K1297q
      have f1417 : Exa Z T1303.heap aD "[Ljava/lang/Object;" := f1416.keep K1303q
      have f1418 : Exa Z T1315.heap aD "[Ljava/lang/Object;" := f1417.keep K1315q
      have f1419 : Exa Z h1330 aD "[Ljava/lang/Object;" := f1418.ext E1330
      have f1420 : Exa Z T1332.heap aD "[Ljava/lang/Object;" := f1419.keep K1332q
      have f1421 : Exa Z T1345.heap aD "[Ljava/lang/Object;" := f1420.keep K1345q
      have f1422 : Exa Z h1354 aD "[Ljava/lang/Object;" := f1421.ext E1354
      have f1423 : Exa Z T1358.heap aD "[Ljava/lang/Object;" := f1422.keep K1358q
      have f1424 : Arv Z T626.heap aD dK (.object "java/lang/Object") (0 : Int32) dL .null := PD2.keep K626q nin0
      have f1425 : Arv Z h627 aD dK (.object "java/lang/Object") (0 : Int32) dL .null := f1424.keep K627q nin0
      have f1426 : Arv Z h637 aD dK (.object "java/lang/Object") (0 : Int32) dL .null := f1425.keep K637q nin0
      have f1427 : Arv Z T680.heap aD dK (.object "java/lang/Object") (0 : Int32) dL .null := f1426.keep K680q nin0
      have f1428 : Arv Z h1295 aD dK (.object "java/lang/Object") (0 : Int32) dL .null := f1427.ext E1295
      have f1429 : Arv Z T1297.heap aD dK (.object "java/lang/Object") (0 : Int32) dL .null := f1428.keep K1297q nin0
      have f1430 : Arv Z T1303.heap aD dK (.object "java/lang/Object") (0 : Int32) dL .null := f1429.keep K1303q nin0
      have le1431 : (h0).size ≤ (T626.heap).size := K626q.1
      have le1432 : (h0).size ≤ (h627).size := (Nat.le_trans le1431 K627q.1)
      have le1433 : (h0).size ≤ (h637).size := (Nat.le_trans le1432 K637q.1)
      have le1434 : (h0).size ≤ (T680.heap).size := (Nat.le_trans le1433 K680q.1)
      have ne1435 : aD ≠ b1295 := (Nat.ne_of_lt (Nat.lt_of_lt_of_le (Nat.lt_of_lt_of_le PD1.lt le1434) (Nat.le_of_eq g1295.symm)))
      have f1436 : Arv Z T1315.heap aD dK (.object "java/lang/Object") (0 : Int32) dL .null := f1430.keep K1315q (ninS ne1435 nin0)
      have f1437 : Arv Z h1330 aD dK (.object "java/lang/Object") (0 : Int32) dL .null := f1436.ext E1330
      have f1438 : Arv Z T1332.heap aD dK (.object "java/lang/Object") (0 : Int32) dL .null := f1437.keep K1332q nin0
      have le1439 : (h0).size ≤ (h1295).size := (Nat.le_trans le1434 E1295.1)
      have le1440 : (h0).size ≤ (T1297.heap).size := (Nat.le_trans le1439 K1297q.1)
      have le1441 : (h0).size ≤ (T1303.heap).size := (Nat.le_trans le1440 K1303q.1)
      have le1442 : (h0).size ≤ (T1315.heap).size := (Nat.le_trans le1441 K1315q.1)
      have ne1443 : aD ≠ b1330 := (Nat.ne_of_lt (Nat.lt_of_lt_of_le (Nat.lt_of_lt_of_le PD1.lt le1442) (Nat.le_of_eq g1330.symm)))
      have f1444 : Arv Z T1345.heap aD dK (.object "java/lang/Object") (0 : Int32) dL .null := f1438.keep K1345q (ninS ne1443 nin0)
      have f1445 : Arv Z h1354 aD dK (.object "java/lang/Object") (0 : Int32) dL .null := f1444.ext E1354
      have le1446 : (h0).size ≤ (h1330).size := (Nat.le_trans le1442 E1330.1)
      have le1447 : (h0).size ≤ (T1332.heap).size := (Nat.le_trans le1446 K1332q.1)
      have le1448 : (h0).size ≤ (T1345.heap).size := (Nat.le_trans le1447 K1345q.1)
      have ne1449 : aD ≠ b1354 := (Nat.ne_of_lt (Nat.lt_of_lt_of_le (Nat.lt_of_lt_of_le PD1.lt le1448) (Nat.le_of_eq g1354.symm)))
      have f1450 : Arv Z T1358.heap aD dK (.object "java/lang/Object") (0 : Int32) dL .null := f1445.keep K1358q (ninS ne1449 nin0)
      have f1451 : Exa Z h1330 b1295 "com/example/quaymark/quaymark/Review$LeftOut" := q1315_0.ext E1330
      have f1452 : Exa Z T1332.heap b1295 "com/example/quaymark/quaymark/Review$LeftOut" := f1451.keep K1332q
      have f1453 : Exa Z T1345.heap b1295 "com/example/quaymark/quaymark/Review$LeftOut" := f1452.keep K1345q
      have f1454 : Exa Z h1354 b1295 "com/example/quaymark/quaymark/Review$LeftOut" := f1453.ext E1354
      have f1455 : Exa Z T1358.heap b1295 "com/example/quaymark/quaymark/Review$LeftOut" := f1454.keep K1358q
      have f1456 : Old Z Z.heap.size T1358.heap := f1361.keep K1358q (allS gz1359 all0)
      have f1457 : CHr Z EL s.vm s.heap T1332.vm h1354 := f1363.trans (CHr.ext E1354 f1363.1)
      have f1458 : Safe Z EL T1332.vm T1358.heap b1354 := Safe.keep K1358q (sfS f1364 sf0) f1457.1 f1364
      refine g_if X1358 hx hZ1332 hown1332 (wd177 hw) (wd178 hw) (wd179 hw) rfl (wd180 hw) (wd181 hw) (wd182 hw) (wd183 hw) (wd184 hw) (by decide) q1358_0 rfl (Con.back (W := 0) (rm_add1a l Z a0 hw zC SC PC aE SE aD SD aM SM mO MO b1354 b1295 dK dL T1358.heap f1456 q1358_0 q1358_2 q1358_3 gz1359 f1423 f1450 f1455 q1358_1) hZ1332 (wd185 hw) (wd46 hw) (by decide) (by decide)) (by rw [hml]; rfl) (lenOf pd20 rfl) rfl (Nat.le_of_eq rfl) (hb hby at_138) (q := 143) rfl (by decide) (by decide) ?_
      intro v1410 T1410 L1410 X1410 Q1410
      obtain ⟨r_1410, kr_1410, rfl, Nq1410, K1410q, q1410_0, q1410_1, q1410_2, q1410_3, q1410_4, q1410_5, q1410_6, q1410_7⟩ := Q1410
      have N1410 := Fr.app N1358 Nq1410
      show Go _ _ _ _ (T1410.setTop (mkF m 143 #[.val (.int p0), .val (.int p1), .val (.int p2), .val (.int p3), .val (.int p4), .val (.int p5), .val (.ref r_626), .val ov627, .val ov637, .val (.ref r_680), .val (.int (2 : Int32)), .val (.ref b1295), .val (.ref b1330), .val (.ref b1354), .unset, .unset, .unset, .unset] [(.int (1 : Int32))]))
      refine g_pop X1410 hx (hb hby at_143) (q := 144) rfl rfl ?_
      refine iLw X1410 hx (hb hby at_144) (q := 146) rfl rfl ?_
      refine cI X1410 hx (hb hby at_146) (q := 147) rfl (z := (2 : Int32)) rfl ?_
      refine icN X1410 hx (hb hby at_147) (q := 150) rfl (by decide) ?_
      refine aLw X1410 hx (hb hby at_150) (q := 152) rfl rfl rfl ?_
      refine aLw X1410 hx (hb hby at_152) (q := 154) rfl rfl rfl ?_
      have gz1464 : Z.heap.size ≤ r_1410 := Nat.le_trans f1456.2.1 q1410_3
      have f1465 : Exa Z h1354 b1330 "com/example/quaymark/quaymark/Review$LeftOut" := q1345_0.ext E1354
      have f1466 : Exa Z T1358.heap b1330 "com/example/quaymark/quaymark/Review$LeftOut" := f1465.keep K1358q
      have f1467 : Exa Z T1410.heap b1330 "com/example/quaymark/quaymark/Review$LeftOut" := f1466.keep K1410q
      have f1468 : Old Z Z.heap.size T1410.heap := f1456.keep K1410q (allS gz1359 all0)
      have f1469 : CHr Z EL s.vm s.heap T1332.vm T1358.heap := f1457.trans (CHr.keep K1358q (sfS f1364 sf0) f1457.1)
      have f1470 : Safe Z EL T1332.vm T1410.heap b1354 := Safe.keep K1410q (sfS f1458 sf0) f1469.1 f1458
      refine g_if X1410 hx hZ1332 hown1332 (wd177 hw) (wd178 hw) (wd179 hw) rfl (wd180 hw) (wd181 hw) (wd182 hw) (wd183 hw) (wd184 hw) (by decide) q1410_0 rfl (Con.back (W := 0) (rm_add1b l Z a0 hw zC SC PC aE SE aD SD aM SM mO MO b1354 b1295 b1330 r_1410 kr_1410 T1410.heap f1468 q1410_0 q1410_1 q1410_2 gz1359 q1410_4 q1410_5 q1410_6 gz1464 f1467 q1410_7) hZ1332 (wd185 hw) (wd46 hw) (by decide) (by decide)) (by rw [hml]; rfl) (lenOf pd20 rfl) rfl (Nat.le_of_eq rfl) (hb hby at_154) (q := 159) rfl (by decide) (by decide) ?_
      intro v1463 T1463 L1463 X1463 Q1463
      obtain ⟨rfl, Nq1463, K1463q, q1463_0, q1463_1, q1463_2, q1463_3, q1463_4⟩ := Q1463
      have N1463 := Fr.app N1410 Nq1463
      show Go _ _ _ _ (T1463.setTop (mkF m 159 #[.val (.int p0), .val (.int p1), .val (.int p2), .val (.int p3), .val (.int p4), .val (.int p5), .val (.ref r_626), .val ov627, .val ov637, .val (.ref r_680), .val (.int (2 : Int32)), .val (.ref b1295), .val (.ref b1330), .val (.ref b1354), .unset, .unset, .unset, .unset] [(.int (1 : Int32))]))
      refine g_pop X1463 hx (hb hby at_159) (q := 160) rfl rfl ?_
      refine g_new X1463 hx hZ1332 hown1332 (wd68 hw) (wd69 hw) (wd70 hw) (by decide) (by decide) rfl (hb hby at_160) (q := 163) rfl ?_
      intro T1471 h1471 b1471 g1471 X1471 e1471 E1471 A1471 D1471
      have sf1472 : Safe Z EL T1332.vm T1463.heap b1471 := Safe.new (Nat.le_of_eq g1471.symm)
      have F1471_105 := D1471 (Or.inr (wd105 hw)) (ty := (.object "java/lang/String")) (by decide)
      have F1471_107 := D1471 (Or.inr (wd107 hw)) (ty := (.object "java/util/List")) (by decide)
      have F1471_109 := D1471 (Or.inr (wd109 hw)) (ty := (.object "java/lang/String")) (by decide)
      have F1471_111 := D1471 (Or.inr (wd111 hw)) (ty := (.object "com/example/quaymark/quaymark/Review$Withdrawal")) (by decide)
      refine g_dup X1471 hx (hb hby at_163) (q := 164) rfl rfl ?_
      refine aLw X1471 hx (hb hby at_164) (q := 166) rfl rfl rfl ?_
      refine aLw X1471 hx (hb hby at_166) (q := 168) rfl rfl rfl ?_
      refine aLw X1471 hx (hb hby at_168) (q := 170) rfl rfl r627 ?_
      refine aLw X1471 hx (hb hby at_170) (q := 172) rfl rfl r637 ?_
      have f1495 : Old Z Z.heap.size T1463.heap := f1468.keep K1463q (allS gz1359 (allS gz1464 all0))
      have gz1494 : Z.heap.size ≤ b1471 := Nat.le_trans f1495.2.1 (Nat.le_of_eq g1471.symm)
      have f1496 : Exa Z h1471 b1354 "java/util/ArrayList" := q1463_0.ext E1471
      have f1497 : Fld Z h1471 b1354 "java/util/ArrayList" "size" "I" (.int (2 : Int32)) := q1463_1.ext E1471
      have f1498 : Fld Z h1471 b1354 "java/util/ArrayList" "elementData" "[Ljava/lang/Object;" (.ref r_1410) := q1463_2.ext E1471
      have f1499 : Arv Z h1471 r_1410 kr_1410 (.object "java/lang/Object") (10 : Int32) [(.ref b1295), (.ref b1330), .null, .null, .null, .null, .null, .null, .null, .null] .null := q1463_3.ext E1471
      have f1500 : Exa Z h1471 r_1410 "[Ljava/lang/Object;" := q1463_4.ext E1471
      have f1501 : Exa Z T1410.heap b1295 "com/example/quaymark/quaymark/Review$LeftOut" := f1455.keep K1410q
      have f1502 : Exa Z T1463.heap b1295 "com/example/quaymark/quaymark/Review$LeftOut" := f1501.keep K1463q
      have f1503 : Exa Z h1471 b1295 "com/example/quaymark/quaymark/Review$LeftOut" := f1502.ext E1471
      have f1504 : Exa Z T1463.heap b1330 "com/example/quaymark/quaymark/Review$LeftOut" := f1467.keep K1463q
      have f1505 : Exa Z h1471 b1330 "com/example/quaymark/quaymark/Review$LeftOut" := f1504.ext E1471
      have f1506 : Old Z Z.heap.size h1471 := f1495.ext E1471
      have f1507 : CHr Z EL s.vm s.heap T1332.vm T1410.heap := f1469.trans (CHr.keep K1410q (sfS f1458 sf0) f1469.1)
      have f1508 : CHr Z EL s.vm s.heap T1332.vm T1463.heap := f1507.trans (CHr.keep K1463q (sfS f1470 (sfS (Safe.exa hZ1332.alike q1410_5 (by decide) (by decide)) sf0)) f1507.1)
      have f1509 : Safe Z EL T1332.vm h1471 b1471 := Safe.ext E1471 f1508.1 sf1472
      refine g_sp X1471 hx hZ1332 hown1332 (wd71 hw) (wd72 hw) (wd73 hw) rfl (by decide) e1471 (Con.back (W := 1) (rm_rv2 l Z a0 hw zC SC PC aE SE aD SD aM SM mO MO b1471 r_626 ov627 ov637 b1354 r_1410 kr_1410 b1295 b1330 h1471 f1506 A1471 F1471_105 F1471_107 F1471_109 F1471_111 gz1494 r627 r637 f1496 f1497 f1498 f1499 f1500 f1503 f1505) hZ1332 (wd73 hw) (wd70 hw) (by decide) (by decide)) (by rw [hml]; rfl) (lenOf pd21 rfl) rfl (Nat.le_of_eq rfl) (hb hby at_172) (q := 175) rfl (by decide) (by decide) ?_
      intro v1493 T1493 L1493 X1493 Q1493
      obtain ⟨q_1493, rfl, Nq1493, K1493q, q1493_0, q1493_1, q1493_2, q1493_3, q1493_4, q1493_5, q1493_6, q1493_7, q1493_8⟩ := Q1493
      have N1493 := Fr.app N1463 Nq1493
      show Go _ _ _ _ (T1493.setTop (mkF m 175 #[.val (.int p0), .val (.int p1), .val (.int p2), .val (.int p3), .val (.int p4), .val (.int p5), .val (.ref r_626), .val ov627, .val ov637, .val (.ref r_680), .val (.int (2 : Int32)), .val (.ref b1295), .val (.ref b1330), .val (.ref b1354), .unset, .unset, .unset, .unset] [(.ref b1471)]))
      refine sAw X1493 hx (hb hby at_175) (q := 177) rfl rfl (Ls' := #[.val (.int p0), .val (.int p1), .val (.int p2), .val (.int p3), .val (.int p4), .val (.int p5), .val (.ref r_626), .val ov627, .val ov637, .val (.ref r_680), .val (.int (2 : Int32)), .val (.ref b1295), .val (.ref b1330), .val (.ref b1354), .val (.ref b1471), .unset, .unset, .unset]) rfl ?_
      refine aLw X1493 hx (hb hby at_177) (q := 179) rfl rfl rfl ?_
      refine aLw X1493 hx (hb hby at_179) (q := 181) rfl rfl rfl ?_
      have f1511 : Old Z Z.heap.size T1493.heap := f1506.keep K1493q (allS gz1494 all0)
      refine g_vi X1493 hx hZ1332 hown1332 (wd112 hw) (wd113 hw) (notFace_of_selects (args := #[]) (mvT hZ1332 (wd115 hw))) (wd115 hw) (wd114 hw) (by decide) q1493_0 rfl (Con.back (W := 0) (rm_sgnL l Z a0 hw zC SC PC aE SE aD SD aM SM mO MO b1471 r_626 (.ref r_680) q_1493 T1493.heap f1511 q1493_1 q1493_2 q1493_6 rfl) hZ1332 (wd116 hw) (wd70 hw) (by decide) (by decide)) (by rw [hml]; rfl) (lenOf pd25 rfl) rfl (Nat.le_of_eq rfl) (hb hby at_181) (q := 184) rfl (by decide) (by decide) ?_
      intro v1510 T1510 L1510 X1510 Q1510
      obtain ⟨r_1510, rfl, Nq1510, K1510q, q1510_0, q1510_1, q1510_2, q1510_3, q1510_4, q1510_5⟩ := Q1510
      have N1510 := Fr.app N1493 Nq1510
      show Go _ _ _ _ (T1510.setTop (mkF m 184 #[.val (.int p0), .val (.int p1), .val (.int p2), .val (.int p3), .val (.int p4), .val (.int p5), .val (.ref r_626), .val ov627, .val ov637, .val (.ref r_680), .val (.int (2 : Int32)), .val (.ref b1295), .val (.ref b1330), .val (.ref b1354), .val (.ref b1471), .unset, .unset, .unset] [(.ref r_1510)]))
      refine sAw X1510 hx (hb hby at_184) (q := 186) rfl rfl (Ls' := #[.val (.int p0), .val (.int p1), .val (.int p2), .val (.int p3), .val (.int p4), .val (.int p5), .val (.ref r_626), .val ov627, .val ov637, .val (.ref r_680), .val (.int (2 : Int32)), .val (.ref b1295), .val (.ref b1330), .val (.ref b1354), .val (.ref b1471), .val (.ref r_1510), .unset, .unset]) rfl ?_
      refine aLw X1510 hx (hb hby at_186) (q := 188) rfl rfl rfl ?_
      have f1513 : Old Z Z.heap.size T1510.heap := f1511.keep K1510q all0
      refine g_vi X1510 hx hZ1332 hown1332 (wd127 hw) (wd128 hw) (notFace_of_selects (args := #[]) (mvT hZ1332 (wd130 hw))) (wd130 hw) (wd129 hw) (by decide) q1510_1 rfl (Con.back (W := 0) (rm_get_leftOut l Z a0 hw zC SC PC aE SE aD SD aM SM mO MO r_1510 q_1493 T1510.heap f1513 q1510_3) hZ1332 (wd131 hw) (wd70 hw) (by decide) (by decide)) (by rw [hml]; rfl) (lenOf pd14 rfl) rfl (Nat.le_of_eq rfl) (hb hby at_188) (q := 191) rfl (by decide) (by decide) ?_
      intro v1512 T1512 L1512 X1512 Q1512
      obtain ⟨rfl, Nq1512, e1512⟩ := Q1512
      have N1512 := Fr.app N1510 Nq1512
      show Go _ _ _ _ (T1512.setTop (mkF m 191 #[.val (.int p0), .val (.int p1), .val (.int p2), .val (.int p3), .val (.int p4), .val (.int p5), .val (.ref r_626), .val ov627, .val ov637, .val (.ref r_680), .val (.int (2 : Int32)), .val (.ref b1295), .val (.ref b1330), .val (.ref b1354), .val (.ref b1471), .val (.ref r_1510), .unset, .unset] [(.ref q_1493)]))
      refine sAw X1512 hx (hb hby at_191) (q := 193) rfl rfl (Ls' := #[.val (.int p0), .val (.int p1), .val (.int p2), .val (.int p3), .val (.int p4), .val (.int p5), .val (.ref r_626), .val ov627, .val ov637, .val (.ref r_680), .val (.int (2 : Int32)), .val (.ref b1295), .val (.ref b1330), .val (.ref b1354), .val (.ref b1471), .val (.ref r_1510), .val (.ref q_1493), .unset]) rfl ?_
      refine aLw X1512 hx (hb hby at_193) (q := 195) rfl rfl rfl ?_
      have f1536 : Fld Z T1510.heap q_1493 "java/util/ImmutableCollections$List12" "e1" "Ljava/lang/Object;" (.ref b1330) := q1493_8.keep K1510q nin0
      have f1537 : Exa Z T1493.heap b1330 "com/example/quaymark/quaymark/Review$LeftOut" := f1505.keep K1493q
      have f1538 : Exa Z T1510.heap b1330 "com/example/quaymark/quaymark/Review$LeftOut" := f1537.keep K1510q
      have f1539 : Exa Z T626.heap aM "java/lang/Object" := PM1.keep K626q
      have f1540 : Exa Z h627 aM "java/lang/Object" := f1539.keep K627q
      have f1541 : Exa Z h637 aM "java/lang/Object" := f1540.keep K637q
      have f1542 : Exa Z T680.heap aM "java/lang/Object" := f1541.keep K680q
      have f1543 : Exa Z h1295 aM "java/lang/Object" := f1542.ext E1295
      have f1544 : Exa Z T1297.heap aM "java/lang/Object" := f1543.keep K1297q
      have f1545 : Exa Z T1303.heap aM "java/lang/Object" := f1544.keep K1303q
      have f1546 : Exa Z T1315.heap aM "java/lang/Object" := f1545.keep K1315q
      have f1547 : Exa Z h1330 aM "java/lang/Object" := f1546.ext E1330
      have f1548 : Exa Z T1332.heap aM "java/lang/Object" := f1547.keep K1332q
      have f1549 : Exa Z T1345.heap aM "java/lang/Object" := f1548.keep K1345q
      have f1550 : Exa Z h1354 aM "java/lang/Object" := f1549.ext E1354
      have f1551 : Exa Z T1358.heap aM "java/lang/Object" := f1550.keep K1358q
      have f1552 : Exa Z T1410.heap aM "java/lang/Object" := f1551.keep K1410q
      have f1553 : Exa Z T1463.heap aM "java/lang/Object" := f1552.keep K1463q
      have f1554 : Exa Z h1471 aM "java/lang/Object" := f1553.ext E1471
      have f1555 : Exa Z T1493.heap aM "java/lang/Object" := f1554.keep K1493q
      have f1556 : Exa Z T1510.heap aM "java/lang/Object" := f1555.keep K1510q
      have f1557 : Exa Z T1510.heap q_1493 "java/util/ImmutableCollections$List12" := q1493_6.keep K1510q
      refine g_if X1512 hx hZ1332 hown1332 (wd132 hw) (wd133 hw) (wd134 hw) rfl (wd274 hw) (wd275 hw) (wd276 hw) (wd277 hw) (wd273 hw) (by decide) f1557 e1512 (Con.back (W := 0) (rm_size2 l Z a0 hw zC SC PC aE SE aD SD aM SM mO MO q_1493 b1330 T1510.heap f1513 f1536 f1538 f1556) hZ1332 (wd278 hw) (wd245 hw) (by decide) (by decide)) (by rw [hml]; rfl) (lenOf pd26 rfl) rfl (Nat.le_of_eq rfl) (hb hby at_195) (q := 200) rfl (by decide) (by decide) ?_
      intro v1535 T1535 L1535 X1535 Q1535
      obtain ⟨rfl, Nq1535, e1535⟩ := Q1535
      have N1535 := Fr.app N1512 Nq1535
      show Go _ _ _ _ (T1535.setTop (mkF m 200 #[.val (.int p0), .val (.int p1), .val (.int p2), .val (.int p3), .val (.int p4), .val (.int p5), .val (.ref r_626), .val ov627, .val ov637, .val (.ref r_680), .val (.int (2 : Int32)), .val (.ref b1295), .val (.ref b1330), .val (.ref b1354), .val (.ref b1471), .val (.ref r_1510), .val (.ref q_1493), .unset] [(.int (2 : Int32))]))
      refine iLw X1535 hx (hb hby at_200) (q := 202) rfl rfl ?_
      refine icN X1535 hx (hb hby at_202) (q := 205) rfl (by decide) ?_
      refine iLw X1535 hx (hb hby at_205) (q := 207) rfl rfl ?_
      refine cI X1535 hx (hb hby at_207) (q := 208) rfl (z := (1 : Int32)) rfl ?_
      refine icN X1535 hx (hb hby at_208) (q := 211) rfl (by decide) ?_
      refine aLw X1535 hx (hb hby at_211) (q := 213) rfl rfl rfl ?_
      refine cI X1535 hx (hb hby at_213) (q := 214) rfl (z := (0 : Int32)) rfl ?_
      have f1560 : Fld Z T1510.heap q_1493 "java/util/ImmutableCollections$List12" "e0" "Ljava/lang/Object;" (.ref b1295) := q1493_7.keep K1510q nin0
      refine g_if X1535 hx hZ1332 hown1332 (wd279 hw) (wd280 hw) (wd281 hw) rfl (wd282 hw) (wd283 hw) (wd284 hw) (wd285 hw) (wd273 hw) (by decide) f1557 e1535 (Con.back (W := 0) (rm_get0 l Z a0 hw zC SC PC aE SE aD SD aM SM mO MO q_1493 b1295 T1510.heap f1513 f1560) hZ1332 (wd286 hw) (wd245 hw) (by decide) (by decide)) (by rw [hml]; rfl) (lenOf pd30 rfl) rfl (Nat.le_of_eq rfl) (hb hby at_214) (q := 219) rfl (by decide) (by decide) ?_
      intro v1559 T1559 L1559 X1559 Q1559
      obtain ⟨rfl, Nq1559, e1559⟩ := Q1559
      have N1559 := Fr.app N1535 Nq1559
      show Go _ _ _ _ (T1559.setTop (mkF m 219 #[.val (.int p0), .val (.int p1), .val (.int p2), .val (.int p3), .val (.int p4), .val (.int p5), .val (.ref r_626), .val ov627, .val ov637, .val (.ref r_680), .val (.int (2 : Int32)), .val (.ref b1295), .val (.ref b1330), .val (.ref b1354), .val (.ref b1471), .val (.ref r_1510), .val (.ref q_1493), .unset] [(.ref b1295)]))
      refine aLw X1559 hx (hb hby at_219) (q := 221) rfl rfl rfl ?_
      refine g_acmp X1559 hx (hb hby at_221) (q := 224) rfl rfl (same := true) (decide_eq_true rfl) (by decide) (by decide) ?_
      refine iLw X1559 hx (hb hby at_224) (q := 226) rfl rfl ?_
      refine cI X1559 hx (hb hby at_226) (q := 227) rfl (z := (2 : Int32)) rfl ?_
      refine icN X1559 hx (hb hby at_227) (q := 230) rfl (by decide) ?_
      refine aLw X1559 hx (hb hby at_230) (q := 232) rfl rfl rfl ?_
      refine cI X1559 hx (hb hby at_232) (q := 233) rfl (z := (1 : Int32)) rfl ?_
      refine g_if X1559 hx hZ1332 hown1332 (wd279 hw) (wd280 hw) (wd281 hw) rfl (wd282 hw) (wd283 hw) (wd284 hw) (wd285 hw) (wd273 hw) (by decide) f1557 e1559 (Con.back (W := 0) (rm_get1 l Z a0 hw zC SC PC aE SE aD SD aM SM mO MO q_1493 b1330 T1510.heap f1513 f1536 f1538 f1556) hZ1332 (wd286 hw) (wd245 hw) (by decide) (by decide)) (by rw [hml]; rfl) (lenOf pd30 rfl) rfl (Nat.le_of_eq rfl) (hb hby at_233) (q := 238) rfl (by decide) (by decide) ?_
      intro v1561 T1561 L1561 X1561 Q1561
      obtain ⟨rfl, Nq1561, e1561⟩ := Q1561
      have N1561 := Fr.app N1559 Nq1561
      show Go _ _ _ _ (T1561.setTop (mkF m 238 #[.val (.int p0), .val (.int p1), .val (.int p2), .val (.int p3), .val (.int p4), .val (.int p5), .val (.ref r_626), .val ov627, .val ov637, .val (.ref r_680), .val (.int (2 : Int32)), .val (.ref b1295), .val (.ref b1330), .val (.ref b1354), .val (.ref b1471), .val (.ref r_1510), .val (.ref q_1493), .unset] [(.ref b1330)]))
      refine aLw X1561 hx (hb hby at_238) (q := 240) rfl rfl rfl ?_
      refine g_acmp X1561 hx (hb hby at_240) (q := 243) rfl rfl (same := true) (decide_eq_true rfl) (by decide) (by decide) ?_
      refine cI X1561 hx (hb hby at_243) (q := 244) rfl (z := (1 : Int32)) rfl ?_
      refine g_goto X1561 hx (hb hby at_244) (q := 248) (by decide) (by decide) ?_
      refine sIw X1561 hx (hb hby at_248) (q := 250) rfl (Ls' := #[.val (.int p0), .val (.int p1), .val (.int p2), .val (.int p3), .val (.int p4), .val (.int p5), .val (.ref r_626), .val ov627, .val ov637, .val (.ref r_680), .val (.int (2 : Int32)), .val (.ref b1295), .val (.ref b1330), .val (.ref b1354), .val (.ref b1471), .val (.ref r_1510), .val (.ref q_1493), .val (.int (1 : Int32))]) rfl ?_
      refine iLw X1561 hx (hb hby at_250) (q := 252) rfl rfl ?_
      refine ifN X1561 hx (hb hby at_252) (q := 255) rfl (by decide) ?_
      refine aLw X1561 hx (hb hby at_255) (q := 257) rfl rfl rfl ?_
      refine g_vi X1561 hx hZ1332 hown1332 (wd143 hw) (wd144 hw) (notFace_of_selects (args := #[]) (mvT hZ1332 (wd146 hw))) (wd146 hw) (wd145 hw) (by decide) q1510_1 e1561 (Con.back (W := 0) (rm_get_submittedBy l Z a0 hw zC SC PC aE SE aD SD aM SM mO MO r_1510 r_626 T1510.heap f1513 q1510_2) hZ1332 (wd147 hw) (wd70 hw) (by decide) (by decide)) (by rw [hml]; rfl) (lenOf pd27 rfl) rfl (Nat.le_of_eq rfl) (hb hby at_257) (q := 260) rfl (by decide) (by decide) ?_
      intro v1562 T1562 L1562 X1562 Q1562
      obtain ⟨rfl, Nq1562, e1562⟩ := Q1562
      have N1562 := Fr.app N1561 Nq1562
      show Go _ _ _ _ (T1562.setTop (mkF m 260 #[.val (.int p0), .val (.int p1), .val (.int p2), .val (.int p3), .val (.int p4), .val (.int p5), .val (.ref r_626), .val ov627, .val ov637, .val (.ref r_680), .val (.int (2 : Int32)), .val (.ref b1295), .val (.ref b1330), .val (.ref b1354), .val (.ref b1471), .val (.ref r_1510), .val (.ref q_1493), .val (.int (1 : Int32))] [(.ref r_626)]))
      refine aLw X1562 hx (hb hby at_260) (q := 262) rfl rfl rfl ?_
      have f1581 : Exa Z h627 r_626 "java/lang/String" := q626_1.keep K627q
      have f1582 : Exa Z h637 r_626 "java/lang/String" := f1581.keep K637q
      have f1583 : Exa Z T680.heap r_626 "java/lang/String" := f1582.keep K680q
      have f1584 : Exa Z h1295 r_626 "java/lang/String" := f1583.ext E1295
      have f1585 : Exa Z T1297.heap r_626 "java/lang/String" := f1584.keep K1297q
      have f1586 : Exa Z T1303.heap r_626 "java/lang/String" := f1585.keep K1303q
      have f1587 : Exa Z T1315.heap r_626 "java/lang/String" := f1586.keep K1315q
      have f1588 : Exa Z h1330 r_626 "java/lang/String" := f1587.ext E1330
      have f1589 : Exa Z T1332.heap r_626 "java/lang/String" := f1588.keep K1332q
      have f1590 : Exa Z T1345.heap r_626 "java/lang/String" := f1589.keep K1345q
      have f1591 : Exa Z h1354 r_626 "java/lang/String" := f1590.ext E1354
      have f1592 : Exa Z T1358.heap r_626 "java/lang/String" := f1591.keep K1358q
      have f1593 : Exa Z T1410.heap r_626 "java/lang/String" := f1592.keep K1410q
      have f1594 : Exa Z T1463.heap r_626 "java/lang/String" := f1593.keep K1463q
      have f1595 : Exa Z h1471 r_626 "java/lang/String" := f1594.ext E1471
      have f1596 : Exa Z T1493.heap r_626 "java/lang/String" := f1595.keep K1493q
      have f1597 : Exa Z T1510.heap r_626 "java/lang/String" := f1596.keep K1510q
      refine g_st X1562 hx hZ1332 hown1332 (wd148 hw) (wd149 hw) (wd2 hw) (wd150 hw) (by decide) e1562 (Con.back (W := 0) (rm_samer l Z a0 hw zC SC PC aE SE aD SD aM SM mO MO r_626 T1510.heap f1513 f1597) hZ1332 (wd150 hw) (wd2 hw) (by decide) (by decide)) (by rw [hml]; rfl) (lenOf pd28 rfl) rfl (Nat.le_of_eq rfl) (hb hby at_262) (q := 265) rfl (by decide) (by decide) ?_
      intro v1580 T1580 L1580 X1580 Q1580
      obtain ⟨rfl, Nq1580, e1580⟩ := Q1580
      have N1580 := Fr.app N1562 Nq1580
      show Go _ _ _ _ (T1580.setTop (mkF m 265 #[.val (.int p0), .val (.int p1), .val (.int p2), .val (.int p3), .val (.int p4), .val (.int p5), .val (.ref r_626), .val ov627, .val ov637, .val (.ref r_680), .val (.int (2 : Int32)), .val (.ref b1295), .val (.ref b1330), .val (.ref b1354), .val (.ref b1471), .val (.ref r_1510), .val (.ref q_1493), .val (.int (1 : Int32))] [(.int (1 : Int32))]))
      refine ifN X1580 hx (hb hby at_265) (q := 268) rfl (by decide) ?_
      refine aLw X1580 hx (hb hby at_268) (q := 270) rfl rfl rfl ?_
      refine g_vi X1580 hx hZ1332 hown1332 (wd156 hw) (wd157 hw) (notFace_of_selects (args := #[]) (mvT hZ1332 (wd159 hw))) (wd159 hw) (wd158 hw) (by decide) q1510_1 e1580 (Con.back (W := 0) (rm_get_signedOffBy l Z a0 hw zC SC PC aE SE aD SD aM SM mO MO r_1510 (.ref r_680) T1510.heap f1513 q1510_4 rfl) hZ1332 (wd160 hw) (wd70 hw) (by decide) (by decide)) (by rw [hml]; rfl) (lenOf pd27 rfl) rfl (Nat.le_of_eq rfl) (hb hby at_270) (q := 273) rfl (by decide) (by decide) ?_
      intro v1598 T1598 L1598 X1598 Q1598
      obtain ⟨rfl, Nq1598, e1598⟩ := Q1598
      have N1598 := Fr.app N1580 Nq1598
      show Go _ _ _ _ (T1598.setTop (mkF m 273 #[.val (.int p0), .val (.int p1), .val (.int p2), .val (.int p3), .val (.int p4), .val (.int p5), .val (.ref r_626), .val ov627, .val ov637, .val (.ref r_680), .val (.int (2 : Int32)), .val (.ref b1295), .val (.ref b1330), .val (.ref b1354), .val (.ref b1471), .val (.ref r_1510), .val (.ref q_1493), .val (.int (1 : Int32))] [(.ref r_680)]))
      refine aLw X1598 hx (hb hby at_273) (q := 275) rfl rfl rfl ?_
      have f1614 : Exa Z h1295 r_680 "java/lang/String" := q680_1.ext E1295
      have f1615 : Exa Z T1297.heap r_680 "java/lang/String" := f1614.keep K1297q
      have f1616 : Exa Z T1303.heap r_680 "java/lang/String" := f1615.keep K1303q
      have f1617 : Exa Z T1315.heap r_680 "java/lang/String" := f1616.keep K1315q
      have f1618 : Exa Z h1330 r_680 "java/lang/String" := f1617.ext E1330
      have f1619 : Exa Z T1332.heap r_680 "java/lang/String" := f1618.keep K1332q
      have f1620 : Exa Z T1345.heap r_680 "java/lang/String" := f1619.keep K1345q
      have f1621 : Exa Z h1354 r_680 "java/lang/String" := f1620.ext E1354
      have f1622 : Exa Z T1358.heap r_680 "java/lang/String" := f1621.keep K1358q
      have f1623 : Exa Z T1410.heap r_680 "java/lang/String" := f1622.keep K1410q
      have f1624 : Exa Z T1463.heap r_680 "java/lang/String" := f1623.keep K1463q
      have f1625 : Exa Z h1471 r_680 "java/lang/String" := f1624.ext E1471
      have f1626 : Exa Z T1493.heap r_680 "java/lang/String" := f1625.keep K1493q
      have f1627 : Exa Z T1510.heap r_680 "java/lang/String" := f1626.keep K1510q
      refine g_st X1598 hx hZ1332 hown1332 (wd148 hw) (wd149 hw) (wd2 hw) (wd150 hw) (by decide) e1598 (Con.back (W := 0) (rm_samer l Z a0 hw zC SC PC aE SE aD SD aM SM mO MO r_680 T1510.heap f1513 f1627) hZ1332 (wd150 hw) (wd2 hw) (by decide) (by decide)) (by rw [hml]; rfl) (lenOf pd28 rfl) rfl (Nat.le_of_eq rfl) (hb hby at_275) (q := 278) rfl (by decide) (by decide) ?_
      intro v1613 T1613 L1613 X1613 Q1613
      obtain ⟨rfl, Nq1613, e1613⟩ := Q1613
      have N1613 := Fr.app N1598 Nq1613
      show Go _ _ _ _ (T1613.setTop (mkF m 278 #[.val (.int p0), .val (.int p1), .val (.int p2), .val (.int p3), .val (.int p4), .val (.int p5), .val (.ref r_626), .val ov627, .val ov637, .val (.ref r_680), .val (.int (2 : Int32)), .val (.ref b1295), .val (.ref b1330), .val (.ref b1354), .val (.ref b1471), .val (.ref r_1510), .val (.ref q_1493), .val (.int (1 : Int32))] [(.int (1 : Int32))]))
      refine ifN X1613 hx (hb hby at_278) (q := 281) rfl (by decide) ?_
      refine aLw X1613 hx (hb hby at_281) (q := 283) rfl rfl rfl ?_
      refine g_vi X1613 hx hZ1332 hown1332 (wd161 hw) (wd162 hw) (notFace_of_selects (args := #[]) (mvT hZ1332 (wd164 hw))) (wd164 hw) (wd163 hw) (by decide) q1510_1 e1613 (Con.back (W := 0) (rm_get_withdrawn l Z a0 hw zC SC PC aE SE aD SD aM SM mO MO r_1510 T1510.heap f1513 q1510_5) hZ1332 (wd165 hw) (wd70 hw) (by decide) (by decide)) (by rw [hml]; rfl) (lenOf pd29 rfl) rfl (Nat.le_of_eq rfl) (hb hby at_283) (q := 286) rfl (by decide) (by decide) ?_
      intro v1628 T1628 L1628 X1628 Q1628
      obtain ⟨rfl, Nq1628, e1628⟩ := Q1628
      have N1628 := Fr.app N1613 Nq1628
      show Go _ _ _ _ (T1628.setTop (mkF m 286 #[.val (.int p0), .val (.int p1), .val (.int p2), .val (.int p3), .val (.int p4), .val (.int p5), .val (.ref r_626), .val ov627, .val ov637, .val (.ref r_680), .val (.int (2 : Int32)), .val (.ref b1295), .val (.ref b1330), .val (.ref b1354), .val (.ref b1471), .val (.ref r_1510), .val (.ref q_1493), .val (.int (1 : Int32))] [.null]))
      refine nnN X1628 hx (hb hby at_286) (q := 289) rfl ?_
      refine cI X1628 hx (hb hby at_289) (q := 290) rfl (z := (1 : Int32)) rfl ?_
      refine g_goto X1628 hx (hb hby at_290) (q := 294) (by decide) (by decide) ?_
      have le1629 : (T1332.heap).size ≤ (T1345.heap).size := K1345q.1
      have le1630 : (T1332.heap).size ≤ (h1354).size := (Nat.le_trans le1629 E1354.1)
      have le1631 : (T1332.heap).size ≤ (T1358.heap).size := (Nat.le_trans le1630 K1358q.1)
      have le1632 : (T1332.heap).size ≤ (T1410.heap).size := (Nat.le_trans le1631 K1410q.1)
      have le1633 : (T1332.heap).size ≤ (T1463.heap).size := (Nat.le_trans le1632 K1463q.1)
      have le1634 : (T1332.heap).size ≤ (h1471).size := (Nat.le_trans le1633 E1471.1)
      have le1635 : (T1332.heap).size ≤ (T1493.heap).size := (Nat.le_trans le1634 K1493q.1)
      have le1636 : (T1332.heap).size ≤ (T1510.heap).size := (Nat.le_trans le1635 K1510q.1)
      have f1637 : CHr Z EL s.vm s.heap T1332.vm h1471 := f1508.trans (CHr.ext E1471 f1508.1)
      have f1638 : CHr Z EL s.vm s.heap T1332.vm T1493.heap := f1637.trans (CHr.keep K1493q (sfS f1509 sf0) f1637.1)
      have f1639 : CHr Z EL s.vm s.heap T1332.vm T1510.heap := f1638.trans (CHr.keep K1510q sf0 f1638.1)
      refine endC X1628 hlk hS1332 (by rw [e1628]; exact (Nat.le_trans (Nat.le_refl _) le1636)) hZ1332 (own_EW hw) (by rw [e1628]; exact f1639) (fun h => by rw [hret] at h; cases h) (lastN X1628 hx (t := .boolean) (z' := (1 : Int32)) hret (by simp) (by decide) (hb hby at_294)) ?_ (by decide) (by decide)
      rw [e1628]
      exact ⟨rfl, N1628, trivial⟩
  · refine ifN X637 hx (hb hby at_58) (q := 61) rfl ((if0 _ _).trans (feq hc679).1) ?_
    refine cN X637 hx (hb hby at_61) (q := 62) rfl ?_
    refine g_goto X637 hx (hb hby at_62) (q := 69) (by decide) (by decide) ?_
    refine sAw X637 hx (hb hby at_69) (q := 71) rfl rfl (Ls' := #[.val (.int p0), .val (.int p1), .val (.int p2), .val (.int p3), .val (.int p4), .val (.int p5), .val (.ref r_626), .val ov627, .val ov637, .val .null, .unset, .unset, .unset, .unset, .unset, .unset, .unset, .unset]) rfl ?_
    refine iL X637 hx (hb hby at_71) (q := 72) rfl rfl ?_
    refine cI X637 hx (hb hby at_72) (q := 73) rfl (z := (3 : Int32)) rfl ?_
    refine g_iushr X637 hx (hb hby at_73) (q := 74) rfl rfl ?_
    refine cI X637 hx (hb hby at_74) (q := 75) rfl (z := (3 : Int32)) rfl ?_
    refine g_irem X637 hx (hb hby at_75) (q := 76) rfl (by decide) rfl ?_
    rcases (own_c _ : (((p3.toUInt32 >>> ((3 : Int32) &&& 31).toUInt32).toInt32) % (3 : Int32)) = (0 : Int32) ∨ (((p3.toUInt32 >>> ((3 : Int32) &&& 31).toUInt32).toInt32) % (3 : Int32)) = (1 : Int32) ∨ (((p3.toUInt32 >>> ((3 : Int32) &&& 31).toUInt32).toInt32) % (3 : Int32)) = (2 : Int32)) with hk1640 | hk1641 | hk1642
    · rw [hk1640]
      show Go _ _ _ _ (T637.setTop (mkF m 76 #[.val (.int p0), .val (.int p1), .val (.int p2), .val (.int p3), .val (.int p4), .val (.int p5), .val (.ref r_626), .val ov627, .val ov637, .val .null, .unset, .unset, .unset, .unset, .unset, .unset, .unset, .unset] [(.int (0 : Int32))]))
      refine sIw X637 hx (hb hby at_76) (q := 78) rfl (Ls' := #[.val (.int p0), .val (.int p1), .val (.int p2), .val (.int p3), .val (.int p4), .val (.int p5), .val (.ref r_626), .val ov627, .val ov637, .val .null, .val (.int (0 : Int32)), .unset, .unset, .unset, .unset, .unset, .unset, .unset]) rfl ?_
      refine g_new X637 hx hZ637 hown637 (wd26 hw) (wd27 hw) (wd28 hw) (by decide) (by decide) e637 (hb hby at_78) (q := 81) rfl ?_
      intro T1643 h1643 b1643 g1643 X1643 e1643 E1643 A1643 D1643
      have sf1644 : Safe Z EL vw637 h637 b1643 := Safe.new (Nat.le_of_eq g1643.symm)
      have F1643_39 := D1643 (Or.inr (wd39 hw)) (ty := .int) (by decide)
      have F1643_41 := D1643 (Or.inr (wd41 hw)) (ty := (.object "java/lang/String")) (by decide)
      have F1643_43 := D1643 (Or.inr (wd43 hw)) (ty := (.object "java/lang/String")) (by decide)
      refine g_dup X1643 hx (hb hby at_81) (q := 82) rfl rfl ?_
      refine iLw X1643 hx (hb hby at_82) (q := 84) rfl rfl ?_
      refine iLw X1643 hx (hb hby at_84) (q := 86) rfl rfl ?_
      have f1646 : Old Z Z.heap.size T626.heap := O0.keep K626q all0
      have f1647 : Old Z Z.heap.size h627 := f1646.keep K627q all0
      have f1648 : Old Z Z.heap.size h637 := f1647.keep K637q all0
      have f1649 : Old Z Z.heap.size h1643 := f1648.ext E1643
      have f1650 : CHr Z EL s.vm s.heap vw637 h1643 := C637.trans (CHr.ext E1643 C637.1)
      have le1651 : (h637).size ≤ (h1643).size := E1643.1
      refine g_stS X1643 hx hZ637 hown637 hS637 (Nat.le_trans hk637 le1651) (wd0 hw) (wd1 hw) (wd2 hw) (wd3 hw) (by decide) e1643 (ConS.back (W := 3) (rm_str l Z a0 hw zC SC PC aE SE aD SD aM SM mO MO p5 h1643 f1649 ) hZ637 (wd3 hw) (wd2 hw) (by decide) (by decide) (own_EW hw) f1650.1 sf0 all0) (by rw [hml]; rfl) (lenOf pd22 rfl) rfl (Nat.le_of_eq rfl) (hb hby at_86) (q := 89) rfl (by decide) (by decide) ?_
      rintro v1645 T1645 L1645 ⟨X1645, hS1645, hZ1645, hown1645, R1645⟩ Q1645
      obtain ⟨r_1645, rfl, Nq1645, K1645q, q1645_0, q1645_1⟩ := Q1645
      have N1645 := Fr.app N637 Nq1645
      show Go _ _ _ _ (T1645.setTop (mkF m 89 #[.val (.int p0), .val (.int p1), .val (.int p2), .val (.int p3), .val (.int p4), .val (.int p5), .val (.ref r_626), .val ov627, .val ov637, .val .null, .val (.int (0 : Int32)), .unset, .unset, .unset, .unset, .unset, .unset, .unset] [(.ref r_1645), (.int p4), (.ref b1643), (.ref b1643)]))
      refine iL X1645 hx (hb hby at_89) (q := 90) rfl rfl ?_
      refine bI X1645 hx (hb hby at_90) (q := 92) rfl (z := (16 : Int32)) rfl ?_
      refine g_iushr X1645 hx (hb hby at_92) (q := 93) rfl rfl ?_
      have f1653 : Old Z Z.heap.size T1645.heap := f1649.keep K1645q all0
      have f1654 : CHr Z EL s.vm s.heap T1645.vm T1645.heap := f1650.trans R1645
      refine g_stS X1645 hx hZ1645 hown1645 hS1645 (Nat.le_trans (Nat.le_refl _) (Nat.le_refl _)) (wd0 hw) (wd1 hw) (wd2 hw) (wd3 hw) (by decide) rfl (ConS.back (W := 4) (rm_str l Z a0 hw zC SC PC aE SE aD SD aM SM mO MO ((p0.toUInt32 >>> ((16 : Int32) &&& 31).toUInt32).toInt32) T1645.heap f1653 ) hZ1645 (wd3 hw) (wd2 hw) (by decide) (by decide) (own_EW hw) f1654.1 sf0 all0) (by rw [hml]; rfl) (lenOf pd22 rfl) rfl (Nat.le_of_eq rfl) (hb hby at_93) (q := 96) rfl (by decide) (by decide) ?_
      rintro v1652 T1652 L1652 ⟨X1652, hS1652, hZ1652, hown1652, R1652⟩ Q1652
      obtain ⟨r_1652, rfl, Nq1652, K1652q, q1652_0, q1652_1⟩ := Q1652
      have N1652 := Fr.app N1645 Nq1652
      show Go _ _ _ _ (T1652.setTop (mkF m 96 #[.val (.int p0), .val (.int p1), .val (.int p2), .val (.int p3), .val (.int p4), .val (.int p5), .val (.ref r_626), .val ov627, .val ov637, .val .null, .val (.int (0 : Int32)), .unset, .unset, .unset, .unset, .unset, .unset, .unset] [(.ref r_1652), (.ref r_1645), (.int p4), (.ref b1643), (.ref b1643)]))
      have f1665 : Exa Z T1645.heap b1643 "com/example/quaymark/quaymark/Review$LeftOut" := A1643.keep K1645q
      have f1666 : Exa Z T1652.heap b1643 "com/example/quaymark/quaymark/Review$LeftOut" := f1665.keep K1652q
      have f1667 : Fld Z T1645.heap b1643 "com/example/quaymark/quaymark/Review$LeftOut" "line" "I" (.int (0 : Int32)) := F1643_39.keep K1645q nin0
      have f1668 : Fld Z T1652.heap b1643 "com/example/quaymark/quaymark/Review$LeftOut" "line" "I" (.int (0 : Int32)) := f1667.keep K1652q nin0
      have f1669 : Fld Z T1645.heap b1643 "com/example/quaymark/quaymark/Review$LeftOut" "reason" "Ljava/lang/String;" .null := F1643_41.keep K1645q nin0
      have f1670 : Fld Z T1652.heap b1643 "com/example/quaymark/quaymark/Review$LeftOut" "reason" "Ljava/lang/String;" .null := f1669.keep K1652q nin0
      have f1671 : Fld Z T1645.heap b1643 "com/example/quaymark/quaymark/Review$LeftOut" "by" "Ljava/lang/String;" .null := F1643_43.keep K1645q nin0
      have f1672 : Fld Z T1652.heap b1643 "com/example/quaymark/quaymark/Review$LeftOut" "by" "Ljava/lang/String;" .null := f1671.keep K1652q nin0
      have gz1673 : Z.heap.size ≤ b1643 := Nat.le_trans f1648.2.1 (Nat.le_of_eq g1643.symm)
      have f1674 : Old Z Z.heap.size T1652.heap := f1653.keep K1652q all0
      have f1675 : Safe Z EL vw637 h1643 b1643 := Safe.ext E1643 C637.1 sf1644
      have f1676 : Safe Z EL T1645.vm T1645.heap b1643 := R1645.safe (Nat.lt_of_lt_of_le A1643.lt (Nat.le_refl _)) f1675
      have le1677 : (h1643).size ≤ (T1645.heap).size := K1645q.1
      have f1678 : Safe Z EL T1652.vm T1652.heap b1643 := R1652.safe (Nat.lt_of_lt_of_le A1643.lt le1677) f1676
      refine g_sp X1652 hx hZ1652 hown1652 (wd29 hw) (wd30 hw) (wd31 hw) rfl (by decide) rfl (Con.back (W := 1) (rm_loinit l Z a0 hw zC SC PC aE SE aD SD aM SM mO MO b1643 p4 r_1645 r_1652 T1652.heap f1674 f1666 f1668 f1670 f1672 gz1673) hZ1652 (wd31 hw) (wd28 hw) (by decide) (by decide)) (by rw [hml]; rfl) (lenOf pd24 rfl) rfl (Nat.le_of_eq rfl) (hb hby at_96) (q := 99) rfl (by decide) (by decide) ?_
      intro v1664 T1664 L1664 X1664 Q1664
      obtain ⟨rfl, Nq1664, K1664q, q1664_0⟩ := Q1664
      have N1664 := Fr.app N1652 Nq1664
      show Go _ _ _ _ (T1664.setTop (mkF m 99 #[.val (.int p0), .val (.int p1), .val (.int p2), .val (.int p3), .val (.int p4), .val (.int p5), .val (.ref r_626), .val ov627, .val ov637, .val .null, .val (.int (0 : Int32)), .unset, .unset, .unset, .unset, .unset, .unset, .unset] [(.ref b1643)]))
      refine sAw X1664 hx (hb hby at_99) (q := 101) rfl rfl (Ls' := #[.val (.int p0), .val (.int p1), .val (.int p2), .val (.int p3), .val (.int p4), .val (.int p5), .val (.ref r_626), .val ov627, .val ov637, .val .null, .val (.int (0 : Int32)), .val (.ref b1643), .unset, .unset, .unset, .unset, .unset, .unset]) rfl ?_
      refine g_new X1664 hx hZ1652 hown1652 (wd26 hw) (wd27 hw) (wd28 hw) (by decide) (by decide) rfl (hb hby at_101) (q := 104) rfl ?_
      intro T1679 h1679 b1679 g1679 X1679 e1679 E1679 A1679 D1679
      have sf1680 : Safe Z EL T1652.vm T1664.heap b1679 := Safe.new (Nat.le_of_eq g1679.symm)
      have F1679_39 := D1679 (Or.inr (wd39 hw)) (ty := .int) (by decide)
      have F1679_41 := D1679 (Or.inr (wd41 hw)) (ty := (.object "java/lang/String")) (by decide)
      have F1679_43 := D1679 (Or.inr (wd43 hw)) (ty := (.object "java/lang/String")) (by decide)
      refine g_dup X1679 hx (hb hby at_104) (q := 105) rfl rfl ?_
      refine iLw X1679 hx (hb hby at_105) (q := 107) rfl rfl ?_
      refine iLw X1679 hx (hb hby at_107) (q := 109) rfl rfl ?_
      have f1682 : Old Z Z.heap.size T1664.heap := f1674.keep K1664q (allS gz1673 all0)
      have f1683 : Old Z Z.heap.size h1679 := f1682.ext E1679
      have f1684 : CHr Z EL s.vm s.heap T1652.vm T1652.heap := f1654.trans R1652
      have f1685 : CHr Z EL s.vm s.heap T1652.vm T1664.heap := f1684.trans (CHr.keep K1664q (sfS f1678 sf0) f1684.1)
      have f1686 : CHr Z EL s.vm s.heap T1652.vm h1679 := f1685.trans (CHr.ext E1679 f1685.1)
      have le1687 : (T1652.heap).size ≤ (T1664.heap).size := K1664q.1
      have le1688 : (T1652.heap).size ≤ (h1679).size := (Nat.le_trans le1687 E1679.1)
      refine g_stS X1679 hx hZ1652 hown1652 hS1652 (Nat.le_trans (Nat.le_refl _) le1688) (wd0 hw) (wd1 hw) (wd2 hw) (wd3 hw) (by decide) e1679 (ConS.back (W := 3) (rm_str l Z a0 hw zC SC PC aE SE aD SD aM SM mO MO p4 h1679 f1683 ) hZ1652 (wd3 hw) (wd2 hw) (by decide) (by decide) (own_EW hw) f1686.1 sf0 all0) (by rw [hml]; rfl) (lenOf pd22 rfl) rfl (Nat.le_of_eq rfl) (hb hby at_109) (q := 112) rfl (by decide) (by decide) ?_
      rintro v1681 T1681 L1681 ⟨X1681, hS1681, hZ1681, hown1681, R1681⟩ Q1681
      obtain ⟨r_1681, rfl, Nq1681, K1681q, q1681_0, q1681_1⟩ := Q1681
      have N1681 := Fr.app N1664 Nq1681
      show Go _ _ _ _ (T1681.setTop (mkF m 112 #[.val (.int p0), .val (.int p1), .val (.int p2), .val (.int p3), .val (.int p4), .val (.int p5), .val (.ref r_626), .val ov627, .val ov637, .val .null, .val (.int (0 : Int32)), .val (.ref b1643), .unset, .unset, .unset, .unset, .unset, .unset] [(.ref r_1681), (.int p5), (.ref b1679), (.ref b1679)]))
      refine aLw X1681 hx (hb hby at_112) (q := 114) rfl rfl rfl ?_
      have f1695 : Exa Z T1681.heap b1679 "com/example/quaymark/quaymark/Review$LeftOut" := A1679.keep K1681q
      have f1696 : Fld Z T1681.heap b1679 "com/example/quaymark/quaymark/Review$LeftOut" "line" "I" (.int (0 : Int32)) := F1679_39.keep K1681q nin0
      have f1697 : Fld Z T1681.heap b1679 "com/example/quaymark/quaymark/Review$LeftOut" "reason" "Ljava/lang/String;" .null := F1679_41.keep K1681q nin0
      have f1698 : Fld Z T1681.heap b1679 "com/example/quaymark/quaymark/Review$LeftOut" "by" "Ljava/lang/String;" .null := F1679_43.keep K1681q nin0
      have gz1699 : Z.heap.size ≤ b1679 := Nat.le_trans f1682.2.1 (Nat.le_of_eq g1679.symm)
      have f1700 : Old Z Z.heap.size T1681.heap := f1683.keep K1681q all0
      have f1701 : Safe Z EL T1652.vm h1679 b1679 := Safe.ext E1679 f1685.1 sf1680
      have f1702 : Safe Z EL T1681.vm T1681.heap b1679 := R1681.safe (Nat.lt_of_lt_of_le A1679.lt (Nat.le_refl _)) f1701
      refine g_sp X1681 hx hZ1681 hown1681 (wd29 hw) (wd30 hw) (wd31 hw) rfl (by decide) rfl (Con.back (W := 1) (rm_loinit l Z a0 hw zC SC PC aE SE aD SD aM SM mO MO b1679 p5 r_1681 r_626 T1681.heap f1700 f1695 f1696 f1697 f1698 gz1699) hZ1681 (wd31 hw) (wd28 hw) (by decide) (by decide)) (by rw [hml]; rfl) (lenOf pd24 rfl) rfl (Nat.le_of_eq rfl) (hb hby at_114) (q := 117) rfl (by decide) (by decide) ?_
      intro v1694 T1694 L1694 X1694 Q1694
      obtain ⟨rfl, Nq1694, K1694q, q1694_0⟩ := Q1694
      have N1694 := Fr.app N1681 Nq1694
      show Go _ _ _ _ (T1694.setTop (mkF m 117 #[.val (.int p0), .val (.int p1), .val (.int p2), .val (.int p3), .val (.int p4), .val (.int p5), .val (.ref r_626), .val ov627, .val ov637, .val .null, .val (.int (0 : Int32)), .val (.ref b1643), .unset, .unset, .unset, .unset, .unset, .unset] [(.ref b1679)]))
      refine sAw X1694 hx (hb hby at_117) (q := 119) rfl rfl (Ls' := #[.val (.int p0), .val (.int p1), .val (.int p2), .val (.int p3), .val (.int p4), .val (.int p5), .val (.ref r_626), .val ov627, .val ov637, .val .null, .val (.int (0 : Int32)), .val (.ref b1643), .val (.ref b1679), .unset, .unset, .unset, .unset, .unset]) rfl ?_
      refine g_new X1694 hx hZ1681 hown1681 (wd44 hw) (wd45 hw) (wd46 hw) (by decide) (by decide) rfl (hb hby at_119) (q := 122) rfl ?_
      intro T1703 h1703 b1703 g1703 X1703 e1703 E1703 A1703 D1703
      have sf1704 : Safe Z EL T1681.vm T1694.heap b1703 := Safe.new (Nat.le_of_eq g1703.symm)
      have F1703_64 := D1703 (Or.inl (wd64 hw)) (ty := .int) (by decide)
      have F1703_67 := D1703 (Or.inl (wd67 hw)) (ty := (.array (.object "java/lang/Object"))) (by decide)
      have F1703_99 := D1703 (Or.inl (wd99 hw)) (ty := .int) (by decide)
      refine g_dup X1703 hx (hb hby at_122) (q := 123) rfl rfl ?_
      have f1709 : Old Z Z.heap.size T1694.heap := f1700.keep K1694q (allS gz1699 all0)
      have gz1708 : Z.heap.size ≤ b1703 := Nat.le_trans f1709.2.1 (Nat.le_of_eq g1703.symm)
      have f1710 : Old Z Z.heap.size h1703 := f1709.ext E1703
      have f1711 : CHr Z EL s.vm s.heap T1681.vm T1681.heap := f1686.trans R1681
      have f1712 : CHr Z EL s.vm s.heap T1681.vm T1694.heap := f1711.trans (CHr.keep K1694q (sfS f1702 sf0) f1711.1)
      have f1713 : Safe Z EL T1681.vm h1703 b1703 := Safe.ext E1703 f1712.1 sf1704
      refine g_sp X1703 hx hZ1681 hown1681 (wd47 hw) (wd48 hw) (wd49 hw) rfl (by decide) e1703 (Con.back (W := 1) (rm_alinit l Z a0 hw zC SC PC aE SE aD SD aM SM mO MO b1703 h1703 f1710 A1703 F1703_64 gz1708 F1703_99 F1703_67) hZ1681 (wd49 hw) (wd46 hw) (by decide) (by decide)) (by rw [hml]; rfl) (lenOf pd1 rfl) rfl (Nat.le_of_eq rfl) (hb hby at_123) (q := 126) rfl (by decide) (by decide) ?_
      intro v1707 T1707 L1707 X1707 Q1707
      obtain ⟨rfl, Nq1707, K1707q, q1707_0, q1707_1, q1707_2, q1707_3⟩ := Q1707
      have N1707 := Fr.app N1694 Nq1707
      show Go _ _ _ _ (T1707.setTop (mkF m 126 #[.val (.int p0), .val (.int p1), .val (.int p2), .val (.int p3), .val (.int p4), .val (.int p5), .val (.ref r_626), .val ov627, .val ov637, .val .null, .val (.int (0 : Int32)), .val (.ref b1643), .val (.ref b1679), .unset, .unset, .unset, .unset, .unset] [(.ref b1703)]))
      refine sAw X1707 hx (hb hby at_126) (q := 128) rfl rfl (Ls' := #[.val (.int p0), .val (.int p1), .val (.int p2), .val (.int p3), .val (.int p4), .val (.int p5), .val (.ref r_626), .val ov627, .val ov637, .val .null, .val (.int (0 : Int32)), .val (.ref b1643), .val (.ref b1679), .val (.ref b1703), .unset, .unset, .unset, .unset]) rfl ?_
      refine iLw X1707 hx (hb hby at_128) (q := 130) rfl rfl ?_
      refine cI X1707 hx (hb hby at_130) (q := 131) rfl (z := (1 : Int32)) rfl ?_
      refine icY X1707 hx (hb hby at_131) (q := 144) (by decide) (by decide) (by decide) ?_
      refine iLw X1707 hx (hb hby at_144) (q := 146) rfl rfl ?_
      refine cI X1707 hx (hb hby at_146) (q := 147) rfl (z := (2 : Int32)) rfl ?_
      refine icY X1707 hx (hb hby at_147) (q := 160) (by decide) (by decide) (by decide) ?_
      refine g_new X1707 hx hZ1681 hown1681 (wd68 hw) (wd69 hw) (wd70 hw) (by decide) (by decide) rfl (hb hby at_160) (q := 163) rfl ?_
      intro T1714 h1714 b1714 g1714 X1714 e1714 E1714 A1714 D1714
      have sf1715 : Safe Z EL T1681.vm T1707.heap b1714 := Safe.new (Nat.le_of_eq g1714.symm)
      have F1714_105 := D1714 (Or.inr (wd105 hw)) (ty := (.object "java/lang/String")) (by decide)
      have F1714_107 := D1714 (Or.inr (wd107 hw)) (ty := (.object "java/util/List")) (by decide)
      have F1714_109 := D1714 (Or.inr (wd109 hw)) (ty := (.object "java/lang/String")) (by decide)
      have F1714_111 := D1714 (Or.inr (wd111 hw)) (ty := (.object "com/example/quaymark/quaymark/Review$Withdrawal")) (by decide)
      refine g_dup X1714 hx (hb hby at_163) (q := 164) rfl rfl ?_
      refine aLw X1714 hx (hb hby at_164) (q := 166) rfl rfl rfl ?_
      refine aLw X1714 hx (hb hby at_166) (q := 168) rfl rfl rfl ?_
      refine aLw X1714 hx (hb hby at_168) (q := 170) rfl rfl r627 ?_
      refine aLw X1714 hx (hb hby at_170) (q := 172) rfl rfl r637 ?_
      have f1724 : Old Z Z.heap.size T1707.heap := f1710.keep K1707q (allS gz1708 all0)
      have gz1723 : Z.heap.size ≤ b1714 := Nat.le_trans f1724.2.1 (Nat.le_of_eq g1714.symm)
      have f1725 : Exa Z h1714 b1703 "java/util/ArrayList" := q1707_0.ext E1714
      have f1726 : Fld Z h1714 b1703 "java/util/ArrayList" "size" "I" (.int (0 : Int32)) := q1707_2.ext E1714
      have f1727 : Old Z Z.heap.size h1714 := f1724.ext E1714
      have f1728 : CHr Z EL s.vm s.heap T1681.vm h1703 := f1712.trans (CHr.ext E1703 f1712.1)
      have f1729 : CHr Z EL s.vm s.heap T1681.vm T1707.heap := f1728.trans (CHr.keep K1707q (sfS f1713 sf0) f1728.1)
      have f1730 : Safe Z EL T1681.vm h1714 b1714 := Safe.ext E1714 f1729.1 sf1715
      refine g_sp X1714 hx hZ1681 hown1681 (wd71 hw) (wd72 hw) (wd73 hw) rfl (by decide) e1714 (Con.back (W := 1) (rm_rv0 l Z a0 hw zC SC PC aE SE aD SD aM SM mO MO b1714 r_626 ov627 ov637 b1703 h1714 f1727 A1714 F1714_105 F1714_107 F1714_109 F1714_111 gz1723 r627 r637 f1725 f1726) hZ1681 (wd73 hw) (wd70 hw) (by decide) (by decide)) (by rw [hml]; rfl) (lenOf pd21 rfl) rfl (Nat.le_of_eq rfl) (hb hby at_172) (q := 175) rfl (by decide) (by decide) ?_
      intro v1722 T1722 L1722 X1722 Q1722
      obtain ⟨rfl, Nq1722, K1722q, q1722_0, q1722_1, q1722_2, q1722_3, q1722_4⟩ := Q1722
      have N1722 := Fr.app N1707 Nq1722
      show Go _ _ _ _ (T1722.setTop (mkF m 175 #[.val (.int p0), .val (.int p1), .val (.int p2), .val (.int p3), .val (.int p4), .val (.int p5), .val (.ref r_626), .val ov627, .val ov637, .val .null, .val (.int (0 : Int32)), .val (.ref b1643), .val (.ref b1679), .val (.ref b1703), .unset, .unset, .unset, .unset] [(.ref b1714)]))
      refine sAw X1722 hx (hb hby at_175) (q := 177) rfl rfl (Ls' := #[.val (.int p0), .val (.int p1), .val (.int p2), .val (.int p3), .val (.int p4), .val (.int p5), .val (.ref r_626), .val ov627, .val ov637, .val .null, .val (.int (0 : Int32)), .val (.ref b1643), .val (.ref b1679), .val (.ref b1703), .val (.ref b1714), .unset, .unset, .unset]) rfl ?_
      refine aLw X1722 hx (hb hby at_177) (q := 179) rfl rfl rfl ?_
      refine aLw X1722 hx (hb hby at_179) (q := 181) rfl rfl rfl ?_
      have f1808 : Exa Z T626.heap aE "java/util/ImmutableCollections$ListN" := PE1.keep K626q
      have f1809 : Exa Z h627 aE "java/util/ImmutableCollections$ListN" := f1808.keep K627q
      have f1810 : Exa Z h637 aE "java/util/ImmutableCollections$ListN" := f1809.keep K637q
      have f1811 : Exa Z h1643 aE "java/util/ImmutableCollections$ListN" := f1810.ext E1643
      have f1812 : Exa Z T1645.heap aE "java/util/ImmutableCollections$ListN" := f1811.keep K1645q
      have f1813 : Exa Z T1652.heap aE "java/util/ImmutableCollections$ListN" := f1812.keep K1652q
      have f1814 : Exa Z T1664.heap aE "java/util/ImmutableCollections$ListN" := f1813.keep K1664q
      have f1815 : Exa Z h1679 aE "java/util/ImmutableCollections$ListN" := f1814.ext E1679
      have f1816 : Exa Z T1681.heap aE "java/util/ImmutableCollections$ListN" := f1815.keep K1681q
      have f1817 : Exa Z T1694.heap aE "java/util/ImmutableCollections$ListN" := f1816.keep K1694q
      have f1818 : Exa Z h1703 aE "java/util/ImmutableCollections$ListN" := f1817.ext E1703
      have f1819 : Exa Z T1707.heap aE "java/util/ImmutableCollections$ListN" := f1818.keep K1707q
      have f1820 : Exa Z h1714 aE "java/util/ImmutableCollections$ListN" := f1819.ext E1714
      have f1821 : Exa Z T1722.heap aE "java/util/ImmutableCollections$ListN" := f1820.keep K1722q
      have f1822 : Fld Z T626.heap aE "java/util/ImmutableCollections$ListN" "elements" "[Ljava/lang/Object;" (.ref eA) := PE2.keep K626q nin0
      have f1823 : Fld Z h627 aE "java/util/ImmutableCollections$ListN" "elements" "[Ljava/lang/Object;" (.ref eA) := f1822.keep K627q nin0
      have f1824 : Fld Z h637 aE "java/util/ImmutableCollections$ListN" "elements" "[Ljava/lang/Object;" (.ref eA) := f1823.keep K637q nin0
      have f1825 : Fld Z h1643 aE "java/util/ImmutableCollections$ListN" "elements" "[Ljava/lang/Object;" (.ref eA) := f1824.ext E1643
      have f1826 : Fld Z T1645.heap aE "java/util/ImmutableCollections$ListN" "elements" "[Ljava/lang/Object;" (.ref eA) := f1825.keep K1645q nin0
      have f1827 : Fld Z T1652.heap aE "java/util/ImmutableCollections$ListN" "elements" "[Ljava/lang/Object;" (.ref eA) := f1826.keep K1652q nin0
      have le1828 : (h0).size ≤ (T626.heap).size := K626q.1
      have le1829 : (h0).size ≤ (h627).size := (Nat.le_trans le1828 K627q.1)
      have le1830 : (h0).size ≤ (h637).size := (Nat.le_trans le1829 K637q.1)
      have ne1831 : aE ≠ b1643 := (Nat.ne_of_lt (Nat.lt_of_lt_of_le (Nat.lt_of_lt_of_le PE1.lt le1830) (Nat.le_of_eq g1643.symm)))
      have f1832 : Fld Z T1664.heap aE "java/util/ImmutableCollections$ListN" "elements" "[Ljava/lang/Object;" (.ref eA) := f1827.keep K1664q (ninS ne1831 nin0)
      have f1833 : Fld Z h1679 aE "java/util/ImmutableCollections$ListN" "elements" "[Ljava/lang/Object;" (.ref eA) := f1832.ext E1679
      have f1834 : Fld Z T1681.heap aE "java/util/ImmutableCollections$ListN" "elements" "[Ljava/lang/Object;" (.ref eA) := f1833.keep K1681q nin0
      have le1835 : (h0).size ≤ (h1643).size := (Nat.le_trans le1830 E1643.1)
      have le1836 : (h0).size ≤ (T1645.heap).size := (Nat.le_trans le1835 K1645q.1)
      have le1837 : (h0).size ≤ (T1652.heap).size := (Nat.le_trans le1836 K1652q.1)
      have le1838 : (h0).size ≤ (T1664.heap).size := (Nat.le_trans le1837 K1664q.1)
      have ne1839 : aE ≠ b1679 := (Nat.ne_of_lt (Nat.lt_of_lt_of_le (Nat.lt_of_lt_of_le PE1.lt le1838) (Nat.le_of_eq g1679.symm)))
      have f1840 : Fld Z T1694.heap aE "java/util/ImmutableCollections$ListN" "elements" "[Ljava/lang/Object;" (.ref eA) := f1834.keep K1694q (ninS ne1839 nin0)
      have f1841 : Fld Z h1703 aE "java/util/ImmutableCollections$ListN" "elements" "[Ljava/lang/Object;" (.ref eA) := f1840.ext E1703
      have le1842 : (h0).size ≤ (h1679).size := (Nat.le_trans le1838 E1679.1)
      have le1843 : (h0).size ≤ (T1681.heap).size := (Nat.le_trans le1842 K1681q.1)
      have le1844 : (h0).size ≤ (T1694.heap).size := (Nat.le_trans le1843 K1694q.1)
      have ne1845 : aE ≠ b1703 := (Nat.ne_of_lt (Nat.lt_of_lt_of_le (Nat.lt_of_lt_of_le PE1.lt le1844) (Nat.le_of_eq g1703.symm)))
      have f1846 : Fld Z T1707.heap aE "java/util/ImmutableCollections$ListN" "elements" "[Ljava/lang/Object;" (.ref eA) := f1841.keep K1707q (ninS ne1845 nin0)
      have f1847 : Fld Z h1714 aE "java/util/ImmutableCollections$ListN" "elements" "[Ljava/lang/Object;" (.ref eA) := f1846.ext E1714
      have le1848 : (h0).size ≤ (h1703).size := (Nat.le_trans le1844 E1703.1)
      have le1849 : (h0).size ≤ (T1707.heap).size := (Nat.le_trans le1848 K1707q.1)
      have ne1850 : aE ≠ b1714 := (Nat.ne_of_lt (Nat.lt_of_lt_of_le (Nat.lt_of_lt_of_le PE1.lt le1849) (Nat.le_of_eq g1714.symm)))
      have f1851 : Fld Z T1722.heap aE "java/util/ImmutableCollections$ListN" "elements" "[Ljava/lang/Object;" (.ref eA) := f1847.keep K1722q (ninS ne1850 nin0)
      have f1852 : Arv Z T626.heap eA eK (.object "java/lang/Object") (0 : Int32) eL .null := PE3.keep K626q nin0
      have f1853 : Arv Z h627 eA eK (.object "java/lang/Object") (0 : Int32) eL .null := f1852.keep K627q nin0
      have f1854 : Arv Z h637 eA eK (.object "java/lang/Object") (0 : Int32) eL .null := f1853.keep K637q nin0
      have f1855 : Arv Z h1643 eA eK (.object "java/lang/Object") (0 : Int32) eL .null := f1854.ext E1643
      have f1856 : Arv Z T1645.heap eA eK (.object "java/lang/Object") (0 : Int32) eL .null := f1855.keep K1645q nin0
      have f1857 : Arv Z T1652.heap eA eK (.object "java/lang/Object") (0 : Int32) eL .null := f1856.keep K1652q nin0
      have ne1858 : eA ≠ b1643 := (Nat.ne_of_lt (Nat.lt_of_lt_of_le (Nat.lt_of_lt_of_le PE3.lt le1830) (Nat.le_of_eq g1643.symm)))
      have f1859 : Arv Z T1664.heap eA eK (.object "java/lang/Object") (0 : Int32) eL .null := f1857.keep K1664q (ninS ne1858 nin0)
      have f1860 : Arv Z h1679 eA eK (.object "java/lang/Object") (0 : Int32) eL .null := f1859.ext E1679
      have f1861 : Arv Z T1681.heap eA eK (.object "java/lang/Object") (0 : Int32) eL .null := f1860.keep K1681q nin0
      have ne1862 : eA ≠ b1679 := (Nat.ne_of_lt (Nat.lt_of_lt_of_le (Nat.lt_of_lt_of_le PE3.lt le1838) (Nat.le_of_eq g1679.symm)))
      have f1863 : Arv Z T1694.heap eA eK (.object "java/lang/Object") (0 : Int32) eL .null := f1861.keep K1694q (ninS ne1862 nin0)
      have f1864 : Arv Z h1703 eA eK (.object "java/lang/Object") (0 : Int32) eL .null := f1863.ext E1703
      have ne1865 : eA ≠ b1703 := (Nat.ne_of_lt (Nat.lt_of_lt_of_le (Nat.lt_of_lt_of_le PE3.lt le1844) (Nat.le_of_eq g1703.symm)))
      have f1866 : Arv Z T1707.heap eA eK (.object "java/lang/Object") (0 : Int32) eL .null := f1864.keep K1707q (ninS ne1865 nin0)
      have f1867 : Arv Z h1714 eA eK (.object "java/lang/Object") (0 : Int32) eL .null := f1866.ext E1714
      have ne1868 : eA ≠ b1714 := (Nat.ne_of_lt (Nat.lt_of_lt_of_le (Nat.lt_of_lt_of_le PE3.lt le1849) (Nat.le_of_eq g1714.symm)))
      have f1869 : Arv Z T1722.heap eA eK (.object "java/lang/Object") (0 : Int32) eL .null := f1867.keep K1722q (ninS ne1868 nin0)
      have f1870 : Fld Z T626.heap aE "java/util/ImmutableCollections$ListN" "allowNulls" "Z" (.int (0 : Int32)) := PE4.keep K626q nin0
      have f1871 : Fld Z h627 aE "java/util/ImmutableCollections$ListN" "allowNulls" "Z" (.int (0 : Int32)) := f1870.keep K627q nin0
      have f1872 : Fld Z h637 aE "java/util/ImmutableCollections$ListN" "allowNulls" "Z" (.int (0 : Int32)) := f1871.keep K637q nin0
      have f1873 : Fld Z h1643 aE "java/util/ImmutableCollections$ListN" "allowNulls" "Z" (.int (0 : Int32)) := f1872.ext E1643
      have f1874 : Fld Z T1645.heap aE "java/util/ImmutableCollections$ListN" "allowNulls" "Z" (.int (0 : Int32)) := f1873.keep K1645q nin0
      have f1875 : Fld Z T1652.heap aE "java/util/ImmutableCollections$ListN" "allowNulls" "Z" (.int (0 : Int32)) := f1874.keep K1652q nin0
      have f1876 : Fld Z T1664.heap aE "java/util/ImmutableCollections$ListN" "allowNulls" "Z" (.int (0 : Int32)) := f1875.keep K1664q (ninS ne1831 nin0)
      have f1877 : Fld Z h1679 aE "java/util/ImmutableCollections$ListN" "allowNulls" "Z" (.int (0 : Int32)) := f1876.ext E1679
      have f1878 : Fld Z T1681.heap aE "java/util/ImmutableCollections$ListN" "allowNulls" "Z" (.int (0 : Int32)) := f1877.keep K1681q nin0
      have f1879 : Fld Z T1694.heap aE "java/util/ImmutableCollections$ListN" "allowNulls" "Z" (.int (0 : Int32)) := f1878.keep K1694q (ninS ne1839 nin0)
      have f1880 : Fld Z h1703 aE "java/util/ImmutableCollections$ListN" "allowNulls" "Z" (.int (0 : Int32)) := f1879.ext E1703
      have f1881 : Fld Z T1707.heap aE "java/util/ImmutableCollections$ListN" "allowNulls" "Z" (.int (0 : Int32)) := f1880.keep K1707q (ninS ne1845 nin0)
      have f1882 : Fld Z h1714 aE "java/util/ImmutableCollections$ListN" "allowNulls" "Z" (.int (0 : Int32)) := f1881.ext E1714
      have f1883 : Fld Z T1722.heap aE "java/util/ImmutableCollections$ListN" "allowNulls" "Z" (.int (0 : Int32)) := f1882.keep K1722q (ninS ne1850 nin0)
      have f1884 : Old Z Z.heap.size T1722.heap := f1727.keep K1722q (allS gz1723 all0)
      refine g_vi X1722 hx hZ1681 hown1681 (wd112 hw) (wd113 hw) (notFace_of_selects (args := #[]) (mvT hZ1681 (wd115 hw))) (wd115 hw) (wd114 hw) (by decide) q1722_0 rfl (Con.back (W := 0) (rm_sgnE l Z a0 hw zC SC PC aE SE aD SD aM SM mO MO b1714 r_626 .null eA eK eL T1722.heap f1884 q1722_1 q1722_2 f1821 f1851 f1869 f1883 rfl) hZ1681 (wd116 hw) (wd70 hw) (by decide) (by decide)) (by rw [hml]; rfl) (lenOf pd25 rfl) rfl (Nat.le_of_eq rfl) (hb hby at_181) (q := 184) rfl (by decide) (by decide) ?_
      intro v1807 T1807 L1807 X1807 Q1807
      obtain ⟨r_1807, rfl, Nq1807, K1807q, q1807_0, q1807_1, q1807_2, q1807_3, q1807_4, q1807_5⟩ := Q1807
      have N1807 := Fr.app N1722 Nq1807
      show Go _ _ _ _ (T1807.setTop (mkF m 184 #[.val (.int p0), .val (.int p1), .val (.int p2), .val (.int p3), .val (.int p4), .val (.int p5), .val (.ref r_626), .val ov627, .val ov637, .val .null, .val (.int (0 : Int32)), .val (.ref b1643), .val (.ref b1679), .val (.ref b1703), .val (.ref b1714), .unset, .unset, .unset] [(.ref r_1807)]))
      refine sAw X1807 hx (hb hby at_184) (q := 186) rfl rfl (Ls' := #[.val (.int p0), .val (.int p1), .val (.int p2), .val (.int p3), .val (.int p4), .val (.int p5), .val (.ref r_626), .val ov627, .val ov637, .val .null, .val (.int (0 : Int32)), .val (.ref b1643), .val (.ref b1679), .val (.ref b1703), .val (.ref b1714), .val (.ref r_1807), .unset, .unset]) rfl ?_
      refine aLw X1807 hx (hb hby at_186) (q := 188) rfl rfl rfl ?_
      have f1886 : Old Z Z.heap.size T1807.heap := f1884.keep K1807q all0
      refine g_vi X1807 hx hZ1681 hown1681 (wd127 hw) (wd128 hw) (notFace_of_selects (args := #[]) (mvT hZ1681 (wd130 hw))) (wd130 hw) (wd129 hw) (by decide) q1807_1 rfl (Con.back (W := 0) (rm_get_leftOut l Z a0 hw zC SC PC aE SE aD SD aM SM mO MO r_1807 aE T1807.heap f1886 q1807_3) hZ1681 (wd131 hw) (wd70 hw) (by decide) (by decide)) (by rw [hml]; rfl) (lenOf pd14 rfl) rfl (Nat.le_of_eq rfl) (hb hby at_188) (q := 191) rfl (by decide) (by decide) ?_
      intro v1885 T1885 L1885 X1885 Q1885
      obtain ⟨rfl, Nq1885, e1885⟩ := Q1885
      have N1885 := Fr.app N1807 Nq1885
      show Go _ _ _ _ (T1885.setTop (mkF m 191 #[.val (.int p0), .val (.int p1), .val (.int p2), .val (.int p3), .val (.int p4), .val (.int p5), .val (.ref r_626), .val ov627, .val ov637, .val .null, .val (.int (0 : Int32)), .val (.ref b1643), .val (.ref b1679), .val (.ref b1703), .val (.ref b1714), .val (.ref r_1807), .unset, .unset] [(.ref aE)]))
      refine sAw X1885 hx (hb hby at_191) (q := 193) rfl rfl (Ls' := #[.val (.int p0), .val (.int p1), .val (.int p2), .val (.int p3), .val (.int p4), .val (.int p5), .val (.ref r_626), .val ov627, .val ov637, .val .null, .val (.int (0 : Int32)), .val (.ref b1643), .val (.ref b1679), .val (.ref b1703), .val (.ref b1714), .val (.ref r_1807), .val (.ref aE), .unset]) rfl ?_
      refine aLw X1885 hx (hb hby at_193) (q := 195) rfl rfl rfl ?_
      have f1892 : Exa Z T1807.heap aE "java/util/ImmutableCollections$ListN" := f1821.keep K1807q
      have f1893 : Fld Z T1807.heap aE "java/util/ImmutableCollections$ListN" "elements" "[Ljava/lang/Object;" (.ref eA) := f1851.keep K1807q nin0
      have f1894 : Arv Z T1807.heap eA eK (.object "java/lang/Object") (0 : Int32) eL .null := f1869.keep K1807q nin0
      have f1895 : Fld Z T1807.heap aE "java/util/ImmutableCollections$ListN" "allowNulls" "Z" (.int (0 : Int32)) := f1883.keep K1807q nin0
      refine g_if X1885 hx hZ1681 hown1681 (wd132 hw) (wd133 hw) (wd134 hw) rfl (wd135 hw) (wd136 hw) (wd137 hw) (wd138 hw) (wd126 hw) (by decide) f1892 e1885 (Con.back (W := 0) (rm_lnsize l Z a0 hw zC SC PC aE SE aD SD aM SM mO MO eA eK eL T1807.heap f1886 f1892 f1893 f1894 f1895) hZ1681 (wd140 hw) (wd139 hw) (by decide) (by decide)) (by rw [hml]; rfl) (lenOf pd26 rfl) rfl (Nat.le_of_eq rfl) (hb hby at_195) (q := 200) rfl (by decide) (by decide) ?_
      intro v1891 T1891 L1891 X1891 Q1891
      obtain ⟨rfl, Nq1891, e1891⟩ := Q1891
      have N1891 := Fr.app N1885 Nq1891
      show Go _ _ _ _ (T1891.setTop (mkF m 200 #[.val (.int p0), .val (.int p1), .val (.int p2), .val (.int p3), .val (.int p4), .val (.int p5), .val (.ref r_626), .val ov627, .val ov637, .val .null, .val (.int (0 : Int32)), .val (.ref b1643), .val (.ref b1679), .val (.ref b1703), .val (.ref b1714), .val (.ref r_1807), .val (.ref aE), .unset] [(.int (0 : Int32))]))
      refine iLw X1891 hx (hb hby at_200) (q := 202) rfl rfl ?_
      refine icN X1891 hx (hb hby at_202) (q := 205) rfl (by decide) ?_
      refine iLw X1891 hx (hb hby at_205) (q := 207) rfl rfl ?_
      refine cI X1891 hx (hb hby at_207) (q := 208) rfl (z := (1 : Int32)) rfl ?_
      refine icY X1891 hx (hb hby at_208) (q := 224) (by decide) (by decide) (by decide) ?_
      refine iLw X1891 hx (hb hby at_224) (q := 226) rfl rfl ?_
      refine cI X1891 hx (hb hby at_226) (q := 227) rfl (z := (2 : Int32)) rfl ?_
      refine icY X1891 hx (hb hby at_227) (q := 243) (by decide) (by decide) (by decide) ?_
      refine cI X1891 hx (hb hby at_243) (q := 244) rfl (z := (1 : Int32)) rfl ?_
      refine g_goto X1891 hx (hb hby at_244) (q := 248) (by decide) (by decide) ?_
      refine sIw X1891 hx (hb hby at_248) (q := 250) rfl (Ls' := #[.val (.int p0), .val (.int p1), .val (.int p2), .val (.int p3), .val (.int p4), .val (.int p5), .val (.ref r_626), .val ov627, .val ov637, .val .null, .val (.int (0 : Int32)), .val (.ref b1643), .val (.ref b1679), .val (.ref b1703), .val (.ref b1714), .val (.ref r_1807), .val (.ref aE), .val (.int (1 : Int32))]) rfl ?_
      refine iLw X1891 hx (hb hby at_250) (q := 252) rfl rfl ?_
      refine ifN X1891 hx (hb hby at_252) (q := 255) rfl (by decide) ?_
      refine aLw X1891 hx (hb hby at_255) (q := 257) rfl rfl rfl ?_
      refine g_vi X1891 hx hZ1681 hown1681 (wd143 hw) (wd144 hw) (notFace_of_selects (args := #[]) (mvT hZ1681 (wd146 hw))) (wd146 hw) (wd145 hw) (by decide) q1807_1 e1891 (Con.back (W := 0) (rm_get_submittedBy l Z a0 hw zC SC PC aE SE aD SD aM SM mO MO r_1807 r_626 T1807.heap f1886 q1807_2) hZ1681 (wd147 hw) (wd70 hw) (by decide) (by decide)) (by rw [hml]; rfl) (lenOf pd27 rfl) rfl (Nat.le_of_eq rfl) (hb hby at_257) (q := 260) rfl (by decide) (by decide) ?_
      intro v1896 T1896 L1896 X1896 Q1896
      obtain ⟨rfl, Nq1896, e1896⟩ := Q1896
      have N1896 := Fr.app N1891 Nq1896
      show Go _ _ _ _ (T1896.setTop (mkF m 260 #[.val (.int p0), .val (.int p1), .val (.int p2), .val (.int p3), .val (.int p4), .val (.int p5), .val (.ref r_626), .val ov627, .val ov637, .val .null, .val (.int (0 : Int32)), .val (.ref b1643), .val (.ref b1679), .val (.ref b1703), .val (.ref b1714), .val (.ref r_1807), .val (.ref aE), .val (.int (1 : Int32))] [(.ref r_626)]))
      refine aLw X1896 hx (hb hby at_260) (q := 262) rfl rfl rfl ?_
      have f1912 : Exa Z h627 r_626 "java/lang/String" := q626_1.keep K627q
      have f1913 : Exa Z h637 r_626 "java/lang/String" := f1912.keep K637q
      have f1914 : Exa Z h1643 r_626 "java/lang/String" := f1913.ext E1643
      have f1915 : Exa Z T1645.heap r_626 "java/lang/String" := f1914.keep K1645q
      have f1916 : Exa Z T1652.heap r_626 "java/lang/String" := f1915.keep K1652q
      have f1917 : Exa Z T1664.heap r_626 "java/lang/String" := f1916.keep K1664q
      have f1918 : Exa Z h1679 r_626 "java/lang/String" := f1917.ext E1679
      have f1919 : Exa Z T1681.heap r_626 "java/lang/String" := f1918.keep K1681q
      have f1920 : Exa Z T1694.heap r_626 "java/lang/String" := f1919.keep K1694q
      have f1921 : Exa Z h1703 r_626 "java/lang/String" := f1920.ext E1703
      have f1922 : Exa Z T1707.heap r_626 "java/lang/String" := f1921.keep K1707q
      have f1923 : Exa Z h1714 r_626 "java/lang/String" := f1922.ext E1714
      have f1924 : Exa Z T1722.heap r_626 "java/lang/String" := f1923.keep K1722q
      have f1925 : Exa Z T1807.heap r_626 "java/lang/String" := f1924.keep K1807q
      refine g_st X1896 hx hZ1681 hown1681 (wd148 hw) (wd149 hw) (wd2 hw) (wd150 hw) (by decide) e1896 (Con.back (W := 0) (rm_samer l Z a0 hw zC SC PC aE SE aD SD aM SM mO MO r_626 T1807.heap f1886 f1925) hZ1681 (wd150 hw) (wd2 hw) (by decide) (by decide)) (by rw [hml]; rfl) (lenOf pd28 rfl) rfl (Nat.le_of_eq rfl) (hb hby at_262) (q := 265) rfl (by decide) (by decide) ?_
      intro v1911 T1911 L1911 X1911 Q1911
      obtain ⟨rfl, Nq1911, e1911⟩ := Q1911
      have N1911 := Fr.app N1896 Nq1911
      show Go _ _ _ _ (T1911.setTop (mkF m 265 #[.val (.int p0), .val (.int p1), .val (.int p2), .val (.int p3), .val (.int p4), .val (.int p5), .val (.ref r_626), .val ov627, .val ov637, .val .null, .val (.int (0 : Int32)), .val (.ref b1643), .val (.ref b1679), .val (.ref b1703), .val (.ref b1714), .val (.ref r_1807), .val (.ref aE), .val (.int (1 : Int32))] [(.int (1 : Int32))]))
      refine ifN X1911 hx (hb hby at_265) (q := 268) rfl (by decide) ?_
      refine aLw X1911 hx (hb hby at_268) (q := 270) rfl rfl rfl ?_
      refine g_vi X1911 hx hZ1681 hown1681 (wd156 hw) (wd157 hw) (notFace_of_selects (args := #[]) (mvT hZ1681 (wd159 hw))) (wd159 hw) (wd158 hw) (by decide) q1807_1 e1911 (Con.back (W := 0) (rm_get_signedOffBy l Z a0 hw zC SC PC aE SE aD SD aM SM mO MO r_1807 .null T1807.heap f1886 q1807_4 rfl) hZ1681 (wd160 hw) (wd70 hw) (by decide) (by decide)) (by rw [hml]; rfl) (lenOf pd27 rfl) rfl (Nat.le_of_eq rfl) (hb hby at_270) (q := 273) rfl (by decide) (by decide) ?_
      intro v1926 T1926 L1926 X1926 Q1926
      obtain ⟨rfl, Nq1926, e1926⟩ := Q1926
      have N1926 := Fr.app N1911 Nq1926
      show Go _ _ _ _ (T1926.setTop (mkF m 273 #[.val (.int p0), .val (.int p1), .val (.int p2), .val (.int p3), .val (.int p4), .val (.int p5), .val (.ref r_626), .val ov627, .val ov637, .val .null, .val (.int (0 : Int32)), .val (.ref b1643), .val (.ref b1679), .val (.ref b1703), .val (.ref b1714), .val (.ref r_1807), .val (.ref aE), .val (.int (1 : Int32))] [.null]))
      refine aLw X1926 hx (hb hby at_273) (q := 275) rfl rfl rfl ?_
      refine g_st X1926 hx hZ1681 hown1681 (wd148 hw) (wd149 hw) (wd2 hw) (wd150 hw) (by decide) e1926 (Con.back (W := 0) (rm_samen l Z a0 hw zC SC PC aE SE aD SD aM SM mO MO  T1807.heap f1886 ) hZ1681 (wd150 hw) (wd2 hw) (by decide) (by decide)) (by rw [hml]; rfl) (lenOf pd28 rfl) rfl (Nat.le_of_eq rfl) (hb hby at_275) (q := 278) rfl (by decide) (by decide) ?_
      intro v1927 T1927 L1927 X1927 Q1927
      obtain ⟨rfl, Nq1927, e1927⟩ := Q1927
      have N1927 := Fr.app N1926 Nq1927
      show Go _ _ _ _ (T1927.setTop (mkF m 278 #[.val (.int p0), .val (.int p1), .val (.int p2), .val (.int p3), .val (.int p4), .val (.int p5), .val (.ref r_626), .val ov627, .val ov637, .val .null, .val (.int (0 : Int32)), .val (.ref b1643), .val (.ref b1679), .val (.ref b1703), .val (.ref b1714), .val (.ref r_1807), .val (.ref aE), .val (.int (1 : Int32))] [(.int (1 : Int32))]))
      refine ifN X1927 hx (hb hby at_278) (q := 281) rfl (by decide) ?_
      refine aLw X1927 hx (hb hby at_281) (q := 283) rfl rfl rfl ?_
      refine g_vi X1927 hx hZ1681 hown1681 (wd161 hw) (wd162 hw) (notFace_of_selects (args := #[]) (mvT hZ1681 (wd164 hw))) (wd164 hw) (wd163 hw) (by decide) q1807_1 e1927 (Con.back (W := 0) (rm_get_withdrawn l Z a0 hw zC SC PC aE SE aD SD aM SM mO MO r_1807 T1807.heap f1886 q1807_5) hZ1681 (wd165 hw) (wd70 hw) (by decide) (by decide)) (by rw [hml]; rfl) (lenOf pd29 rfl) rfl (Nat.le_of_eq rfl) (hb hby at_283) (q := 286) rfl (by decide) (by decide) ?_
      intro v1928 T1928 L1928 X1928 Q1928
      obtain ⟨rfl, Nq1928, e1928⟩ := Q1928
      have N1928 := Fr.app N1927 Nq1928
      show Go _ _ _ _ (T1928.setTop (mkF m 286 #[.val (.int p0), .val (.int p1), .val (.int p2), .val (.int p3), .val (.int p4), .val (.int p5), .val (.ref r_626), .val ov627, .val ov637, .val .null, .val (.int (0 : Int32)), .val (.ref b1643), .val (.ref b1679), .val (.ref b1703), .val (.ref b1714), .val (.ref r_1807), .val (.ref aE), .val (.int (1 : Int32))] [.null]))
      refine nnN X1928 hx (hb hby at_286) (q := 289) rfl ?_
      refine cI X1928 hx (hb hby at_289) (q := 290) rfl (z := (1 : Int32)) rfl ?_
      refine g_goto X1928 hx (hb hby at_290) (q := 294) (by decide) (by decide) ?_
      have le1929 : (T1681.heap).size ≤ (T1694.heap).size := K1694q.1
      have le1930 : (T1681.heap).size ≤ (h1703).size := (Nat.le_trans le1929 E1703.1)
      have le1931 : (T1681.heap).size ≤ (T1707.heap).size := (Nat.le_trans le1930 K1707q.1)
      have le1932 : (T1681.heap).size ≤ (h1714).size := (Nat.le_trans le1931 E1714.1)
      have le1933 : (T1681.heap).size ≤ (T1722.heap).size := (Nat.le_trans le1932 K1722q.1)
      have le1934 : (T1681.heap).size ≤ (T1807.heap).size := (Nat.le_trans le1933 K1807q.1)
      have f1935 : CHr Z EL s.vm s.heap T1681.vm h1714 := f1729.trans (CHr.ext E1714 f1729.1)
      have f1936 : CHr Z EL s.vm s.heap T1681.vm T1722.heap := f1935.trans (CHr.keep K1722q (sfS f1730 sf0) f1935.1)
      have f1937 : CHr Z EL s.vm s.heap T1681.vm T1807.heap := f1936.trans (CHr.keep K1807q sf0 f1936.1)
      refine endC X1928 hlk hS1681 (by rw [e1928]; exact (Nat.le_trans (Nat.le_refl _) le1934)) hZ1681 (own_EW hw) (by rw [e1928]; exact f1937) (fun h => by rw [hret] at h; cases h) (lastN X1928 hx (t := .boolean) (z' := (1 : Int32)) hret (by simp) (by decide) (hb hby at_294)) ?_ (by decide) (by decide)
      rw [e1928]
      exact ⟨rfl, N1928, trivial⟩
    · rw [hk1641]
      show Go _ _ _ _ (T637.setTop (mkF m 76 #[.val (.int p0), .val (.int p1), .val (.int p2), .val (.int p3), .val (.int p4), .val (.int p5), .val (.ref r_626), .val ov627, .val ov637, .val .null, .unset, .unset, .unset, .unset, .unset, .unset, .unset, .unset] [(.int (1 : Int32))]))
      refine sIw X637 hx (hb hby at_76) (q := 78) rfl (Ls' := #[.val (.int p0), .val (.int p1), .val (.int p2), .val (.int p3), .val (.int p4), .val (.int p5), .val (.ref r_626), .val ov627, .val ov637, .val .null, .val (.int (1 : Int32)), .unset, .unset, .unset, .unset, .unset, .unset, .unset]) rfl ?_
      refine g_new X637 hx hZ637 hown637 (wd26 hw) (wd27 hw) (wd28 hw) (by decide) (by decide) e637 (hb hby at_78) (q := 81) rfl ?_
      intro T1938 h1938 b1938 g1938 X1938 e1938 E1938 A1938 D1938
      have sf1939 : Safe Z EL vw637 h637 b1938 := Safe.new (Nat.le_of_eq g1938.symm)
      have F1938_39 := D1938 (Or.inr (wd39 hw)) (ty := .int) (by decide)
      have F1938_41 := D1938 (Or.inr (wd41 hw)) (ty := (.object "java/lang/String")) (by decide)
      have F1938_43 := D1938 (Or.inr (wd43 hw)) (ty := (.object "java/lang/String")) (by decide)
      refine g_dup X1938 hx (hb hby at_81) (q := 82) rfl rfl ?_
      refine iLw X1938 hx (hb hby at_82) (q := 84) rfl rfl ?_
      refine iLw X1938 hx (hb hby at_84) (q := 86) rfl rfl ?_
      have f1941 : Old Z Z.heap.size T626.heap := O0.keep K626q all0
      have f1942 : Old Z Z.heap.size h627 := f1941.keep K627q all0
      have f1943 : Old Z Z.heap.size h637 := f1942.keep K637q all0
      have f1944 : Old Z Z.heap.size h1938 := f1943.ext E1938
      have f1945 : CHr Z EL s.vm s.heap vw637 h1938 := C637.trans (CHr.ext E1938 C637.1)
      have le1946 : (h637).size ≤ (h1938).size := E1938.1
      refine g_stS X1938 hx hZ637 hown637 hS637 (Nat.le_trans hk637 le1946) (wd0 hw) (wd1 hw) (wd2 hw) (wd3 hw) (by decide) e1938 (ConS.back (W := 3) (rm_str l Z a0 hw zC SC PC aE SE aD SD aM SM mO MO p5 h1938 f1944 ) hZ637 (wd3 hw) (wd2 hw) (by decide) (by decide) (own_EW hw) f1945.1 sf0 all0) (by rw [hml]; rfl) (lenOf pd22 rfl) rfl (Nat.le_of_eq rfl) (hb hby at_86) (q := 89) rfl (by decide) (by decide) ?_
      rintro v1940 T1940 L1940 ⟨X1940, hS1940, hZ1940, hown1940, R1940⟩ Q1940
      obtain ⟨r_1940, rfl, Nq1940, K1940q, q1940_0, q1940_1⟩ := Q1940
      have N1940 := Fr.app N637 Nq1940
      show Go _ _ _ _ (T1940.setTop (mkF m 89 #[.val (.int p0), .val (.int p1), .val (.int p2), .val (.int p3), .val (.int p4), .val (.int p5), .val (.ref r_626), .val ov627, .val ov637, .val .null, .val (.int (1 : Int32)), .unset, .unset, .unset, .unset, .unset, .unset, .unset] [(.ref r_1940), (.int p4), (.ref b1938), (.ref b1938)]))
      refine iL X1940 hx (hb hby at_89) (q := 90) rfl rfl ?_
      refine bI X1940 hx (hb hby at_90) (q := 92) rfl (z := (16 : Int32)) rfl ?_
      refine g_iushr X1940 hx (hb hby at_92) (q := 93) rfl rfl ?_
      have f1948 : Old Z Z.heap.size T1940.heap := f1944.keep K1940q all0
      have f1949 : CHr Z EL s.vm s.heap T1940.vm T1940.heap := f1945.trans R1940
      refine g_stS X1940 hx hZ1940 hown1940 hS1940 (Nat.le_trans (Nat.le_refl _) (Nat.le_refl _)) (wd0 hw) (wd1 hw) (wd2 hw) (wd3 hw) (by decide) rfl (ConS.back (W := 4) (rm_str l Z a0 hw zC SC PC aE SE aD SD aM SM mO MO ((p0.toUInt32 >>> ((16 : Int32) &&& 31).toUInt32).toInt32) T1940.heap f1948 ) hZ1940 (wd3 hw) (wd2 hw) (by decide) (by decide) (own_EW hw) f1949.1 sf0 all0) (by rw [hml]; rfl) (lenOf pd22 rfl) rfl (Nat.le_of_eq rfl) (hb hby at_93) (q := 96) rfl (by decide) (by decide) ?_
      rintro v1947 T1947 L1947 ⟨X1947, hS1947, hZ1947, hown1947, R1947⟩ Q1947
      obtain ⟨r_1947, rfl, Nq1947, K1947q, q1947_0, q1947_1⟩ := Q1947
      have N1947 := Fr.app N1940 Nq1947
      show Go _ _ _ _ (T1947.setTop (mkF m 96 #[.val (.int p0), .val (.int p1), .val (.int p2), .val (.int p3), .val (.int p4), .val (.int p5), .val (.ref r_626), .val ov627, .val ov637, .val .null, .val (.int (1 : Int32)), .unset, .unset, .unset, .unset, .unset, .unset, .unset] [(.ref r_1947), (.ref r_1940), (.int p4), (.ref b1938), (.ref b1938)]))
      have f1960 : Exa Z T1940.heap b1938 "com/example/quaymark/quaymark/Review$LeftOut" := A1938.keep K1940q
      have f1961 : Exa Z T1947.heap b1938 "com/example/quaymark/quaymark/Review$LeftOut" := f1960.keep K1947q
      have f1962 : Fld Z T1940.heap b1938 "com/example/quaymark/quaymark/Review$LeftOut" "line" "I" (.int (0 : Int32)) := F1938_39.keep K1940q nin0
      have f1963 : Fld Z T1947.heap b1938 "com/example/quaymark/quaymark/Review$LeftOut" "line" "I" (.int (0 : Int32)) := f1962.keep K1947q nin0
      have f1964 : Fld Z T1940.heap b1938 "com/example/quaymark/quaymark/Review$LeftOut" "reason" "Ljava/lang/String;" .null := F1938_41.keep K1940q nin0
      have f1965 : Fld Z T1947.heap b1938 "com/example/quaymark/quaymark/Review$LeftOut" "reason" "Ljava/lang/String;" .null := f1964.keep K1947q nin0
      have f1966 : Fld Z T1940.heap b1938 "com/example/quaymark/quaymark/Review$LeftOut" "by" "Ljava/lang/String;" .null := F1938_43.keep K1940q nin0
      have f1967 : Fld Z T1947.heap b1938 "com/example/quaymark/quaymark/Review$LeftOut" "by" "Ljava/lang/String;" .null := f1966.keep K1947q nin0
      have gz1968 : Z.heap.size ≤ b1938 := Nat.le_trans f1943.2.1 (Nat.le_of_eq g1938.symm)
      have f1969 : Old Z Z.heap.size T1947.heap := f1948.keep K1947q all0
      have f1970 : Safe Z EL vw637 h1938 b1938 := Safe.ext E1938 C637.1 sf1939
      have f1971 : Safe Z EL T1940.vm T1940.heap b1938 := R1940.safe (Nat.lt_of_lt_of_le A1938.lt (Nat.le_refl _)) f1970
      have le1972 : (h1938).size ≤ (T1940.heap).size := K1940q.1
      have f1973 : Safe Z EL T1947.vm T1947.heap b1938 := R1947.safe (Nat.lt_of_lt_of_le A1938.lt le1972) f1971
      refine g_sp X1947 hx hZ1947 hown1947 (wd29 hw) (wd30 hw) (wd31 hw) rfl (by decide) rfl (Con.back (W := 1) (rm_loinit l Z a0 hw zC SC PC aE SE aD SD aM SM mO MO b1938 p4 r_1940 r_1947 T1947.heap f1969 f1961 f1963 f1965 f1967 gz1968) hZ1947 (wd31 hw) (wd28 hw) (by decide) (by decide)) (by rw [hml]; rfl) (lenOf pd24 rfl) rfl (Nat.le_of_eq rfl) (hb hby at_96) (q := 99) rfl (by decide) (by decide) ?_
      intro v1959 T1959 L1959 X1959 Q1959
      obtain ⟨rfl, Nq1959, K1959q, q1959_0⟩ := Q1959
      have N1959 := Fr.app N1947 Nq1959
      show Go _ _ _ _ (T1959.setTop (mkF m 99 #[.val (.int p0), .val (.int p1), .val (.int p2), .val (.int p3), .val (.int p4), .val (.int p5), .val (.ref r_626), .val ov627, .val ov637, .val .null, .val (.int (1 : Int32)), .unset, .unset, .unset, .unset, .unset, .unset, .unset] [(.ref b1938)]))
      refine sAw X1959 hx (hb hby at_99) (q := 101) rfl rfl (Ls' := #[.val (.int p0), .val (.int p1), .val (.int p2), .val (.int p3), .val (.int p4), .val (.int p5), .val (.ref r_626), .val ov627, .val ov637, .val .null, .val (.int (1 : Int32)), .val (.ref b1938), .unset, .unset, .unset, .unset, .unset, .unset]) rfl ?_
      refine g_new X1959 hx hZ1947 hown1947 (wd26 hw) (wd27 hw) (wd28 hw) (by decide) (by decide) rfl (hb hby at_101) (q := 104) rfl ?_
      intro T1974 h1974 b1974 g1974 X1974 e1974 E1974 A1974 D1974
      have sf1975 : Safe Z EL T1947.vm T1959.heap b1974 := Safe.new (Nat.le_of_eq g1974.symm)
      have F1974_39 := D1974 (Or.inr (wd39 hw)) (ty := .int) (by decide)
      have F1974_41 := D1974 (Or.inr (wd41 hw)) (ty := (.object "java/lang/String")) (by decide)
      have F1974_43 := D1974 (Or.inr (wd43 hw)) (ty := (.object "java/lang/String")) (by decide)
      refine g_dup X1974 hx (hb hby at_104) (q := 105) rfl rfl ?_
      refine iLw X1974 hx (hb hby at_105) (q := 107) rfl rfl ?_
      refine iLw X1974 hx (hb hby at_107) (q := 109) rfl rfl ?_
      have f1977 : Old Z Z.heap.size T1959.heap := f1969.keep K1959q (allS gz1968 all0)
      have f1978 : Old Z Z.heap.size h1974 := f1977.ext E1974
      have f1979 : CHr Z EL s.vm s.heap T1947.vm T1947.heap := f1949.trans R1947
      have f1980 : CHr Z EL s.vm s.heap T1947.vm T1959.heap := f1979.trans (CHr.keep K1959q (sfS f1973 sf0) f1979.1)
      have f1981 : CHr Z EL s.vm s.heap T1947.vm h1974 := f1980.trans (CHr.ext E1974 f1980.1)
      have le1982 : (T1947.heap).size ≤ (T1959.heap).size := K1959q.1
      have le1983 : (T1947.heap).size ≤ (h1974).size := (Nat.le_trans le1982 E1974.1)
      refine g_stS X1974 hx hZ1947 hown1947 hS1947 (Nat.le_trans (Nat.le_refl _) le1983) (wd0 hw) (wd1 hw) (wd2 hw) (wd3 hw) (by decide) e1974 (ConS.back (W := 3) (rm_str l Z a0 hw zC SC PC aE SE aD SD aM SM mO MO p4 h1974 f1978 ) hZ1947 (wd3 hw) (wd2 hw) (by decide) (by decide) (own_EW hw) f1981.1 sf0 all0) (by rw [hml]; rfl) (lenOf pd22 rfl) rfl (Nat.le_of_eq rfl) (hb hby at_109) (q := 112) rfl (by decide) (by decide) ?_
      rintro v1976 T1976 L1976 ⟨X1976, hS1976, hZ1976, hown1976, R1976⟩ Q1976
      obtain ⟨r_1976, rfl, Nq1976, K1976q, q1976_0, q1976_1⟩ := Q1976
      have N1976 := Fr.app N1959 Nq1976
      show Go _ _ _ _ (T1976.setTop (mkF m 112 #[.val (.int p0), .val (.int p1), .val (.int p2), .val (.int p3), .val (.int p4), .val (.int p5), .val (.ref r_626), .val ov627, .val ov637, .val .null, .val (.int (1 : Int32)), .val (.ref b1938), .unset, .unset, .unset, .unset, .unset, .unset] [(.ref r_1976), (.int p5), (.ref b1974), (.ref b1974)]))
      refine aLw X1976 hx (hb hby at_112) (q := 114) rfl rfl rfl ?_
      have f1990 : Exa Z T1976.heap b1974 "com/example/quaymark/quaymark/Review$LeftOut" := A1974.keep K1976q
      have f1991 : Fld Z T1976.heap b1974 "com/example/quaymark/quaymark/Review$LeftOut" "line" "I" (.int (0 : Int32)) := F1974_39.keep K1976q nin0
      have f1992 : Fld Z T1976.heap b1974 "com/example/quaymark/quaymark/Review$LeftOut" "reason" "Ljava/lang/String;" .null := F1974_41.keep K1976q nin0
      have f1993 : Fld Z T1976.heap b1974 "com/example/quaymark/quaymark/Review$LeftOut" "by" "Ljava/lang/String;" .null := F1974_43.keep K1976q nin0
      have gz1994 : Z.heap.size ≤ b1974 := Nat.le_trans f1977.2.1 (Nat.le_of_eq g1974.symm)
      have f1995 : Old Z Z.heap.size T1976.heap := f1978.keep K1976q all0
      have f1996 : Safe Z EL T1947.vm h1974 b1974 := Safe.ext E1974 f1980.1 sf1975
      have f1997 : Safe Z EL T1976.vm T1976.heap b1974 := R1976.safe (Nat.lt_of_lt_of_le A1974.lt (Nat.le_refl _)) f1996
      refine g_sp X1976 hx hZ1976 hown1976 (wd29 hw) (wd30 hw) (wd31 hw) rfl (by decide) rfl (Con.back (W := 1) (rm_loinit l Z a0 hw zC SC PC aE SE aD SD aM SM mO MO b1974 p5 r_1976 r_626 T1976.heap f1995 f1990 f1991 f1992 f1993 gz1994) hZ1976 (wd31 hw) (wd28 hw) (by decide) (by decide)) (by rw [hml]; rfl) (lenOf pd24 rfl) rfl (Nat.le_of_eq rfl) (hb hby at_114) (q := 117) rfl (by decide) (by decide) ?_
      intro v1989 T1989 L1989 X1989 Q1989
      obtain ⟨rfl, Nq1989, K1989q, q1989_0⟩ := Q1989
      have N1989 := Fr.app N1976 Nq1989
      show Go _ _ _ _ (T1989.setTop (mkF m 117 #[.val (.int p0), .val (.int p1), .val (.int p2), .val (.int p3), .val (.int p4), .val (.int p5), .val (.ref r_626), .val ov627, .val ov637, .val .null, .val (.int (1 : Int32)), .val (.ref b1938), .unset, .unset, .unset, .unset, .unset, .unset] [(.ref b1974)]))
      refine sAw X1989 hx (hb hby at_117) (q := 119) rfl rfl (Ls' := #[.val (.int p0), .val (.int p1), .val (.int p2), .val (.int p3), .val (.int p4), .val (.int p5), .val (.ref r_626), .val ov627, .val ov637, .val .null, .val (.int (1 : Int32)), .val (.ref b1938), .val (.ref b1974), .unset, .unset, .unset, .unset, .unset]) rfl ?_
      refine g_new X1989 hx hZ1976 hown1976 (wd44 hw) (wd45 hw) (wd46 hw) (by decide) (by decide) rfl (hb hby at_119) (q := 122) rfl ?_
      intro T1998 h1998 b1998 g1998 X1998 e1998 E1998 A1998 D1998
      have sf1999 : Safe Z EL T1976.vm T1989.heap b1998 := Safe.new (Nat.le_of_eq g1998.symm)
      have F1998_64 := D1998 (Or.inl (wd64 hw)) (ty := .int) (by decide)
      have F1998_67 := D1998 (Or.inl (wd67 hw)) (ty := (.array (.object "java/lang/Object"))) (by decide)
      have F1998_99 := D1998 (Or.inl (wd99 hw)) (ty := .int) (by decide)
      refine g_dup X1998 hx (hb hby at_122) (q := 123) rfl rfl ?_
      have f2004 : Old Z Z.heap.size T1989.heap := f1995.keep K1989q (allS gz1994 all0)
      have gz2003 : Z.heap.size ≤ b1998 := Nat.le_trans f2004.2.1 (Nat.le_of_eq g1998.symm)
      have f2005 : Old Z Z.heap.size h1998 := f2004.ext E1998
      have f2006 : CHr Z EL s.vm s.heap T1976.vm T1976.heap := f1981.trans R1976
      have f2007 : CHr Z EL s.vm s.heap T1976.vm T1989.heap := f2006.trans (CHr.keep K1989q (sfS f1997 sf0) f2006.1)
      have f2008 : Safe Z EL T1976.vm h1998 b1998 := Safe.ext E1998 f2007.1 sf1999
      refine g_sp X1998 hx hZ1976 hown1976 (wd47 hw) (wd48 hw) (wd49 hw) rfl (by decide) e1998 (Con.back (W := 1) (rm_alinit l Z a0 hw zC SC PC aE SE aD SD aM SM mO MO b1998 h1998 f2005 A1998 F1998_64 gz2003 F1998_99 F1998_67) hZ1976 (wd49 hw) (wd46 hw) (by decide) (by decide)) (by rw [hml]; rfl) (lenOf pd1 rfl) rfl (Nat.le_of_eq rfl) (hb hby at_123) (q := 126) rfl (by decide) (by decide) ?_
      intro v2002 T2002 L2002 X2002 Q2002
      obtain ⟨rfl, Nq2002, K2002q, q2002_0, q2002_1, q2002_2, q2002_3⟩ := Q2002
      have N2002 := Fr.app N1989 Nq2002
      show Go _ _ _ _ (T2002.setTop (mkF m 126 #[.val (.int p0), .val (.int p1), .val (.int p2), .val (.int p3), .val (.int p4), .val (.int p5), .val (.ref r_626), .val ov627, .val ov637, .val .null, .val (.int (1 : Int32)), .val (.ref b1938), .val (.ref b1974), .unset, .unset, .unset, .unset, .unset] [(.ref b1998)]))
      refine sAw X2002 hx (hb hby at_126) (q := 128) rfl rfl (Ls' := #[.val (.int p0), .val (.int p1), .val (.int p2), .val (.int p3), .val (.int p4), .val (.int p5), .val (.ref r_626), .val ov627, .val ov637, .val .null, .val (.int (1 : Int32)), .val (.ref b1938), .val (.ref b1974), .val (.ref b1998), .unset, .unset, .unset, .unset]) rfl ?_
      refine iLw X2002 hx (hb hby at_128) (q := 130) rfl rfl ?_
      refine cI X2002 hx (hb hby at_130) (q := 131) rfl (z := (1 : Int32)) rfl ?_
      refine icN X2002 hx (hb hby at_131) (q := 134) rfl (by decide) ?_
      refine aLw X2002 hx (hb hby at_134) (q := 136) rfl rfl rfl ?_
      refine aLw X2002 hx (hb hby at_136) (q := 138) rfl rfl rfl ?_
      have f2052 : Exa Z T626.heap aD "[Ljava/lang/Object;" := PD1.keep K626q
      have f2053 : Exa Z h627 aD "[Ljava/lang/Object;" := f2052.keep K627q
      have f2054 : Exa Z h637 aD "[Ljava/lang/Object;" := f2053.keep K637q
      have f2055 : Exa Z h1938 aD "[Ljava/lang/Object;" := f2054.ext E1938
      have f2056 : Exa Z T1940.heap aD "[Ljava/lang/Object;" := f2055.keep K1940q
      have f2057 : Exa Z T1947.heap aD "[Ljava/lang/Object;" := f2056.keep K1947q
      have f2058 : Exa Z T1959.heap aD "[Ljava/lang/Object;" := f2057.keep K1959q
      have f2059 : Exa Z h1974 aD "[Ljava/lang/Object;" := f2058.ext E1974
      have f2060 : Exa Z T1976.heap aD "[Ljava/lang/Object;" := f2059.keep K1976q
      have f2061 : Exa Z T1989.heap aD "[Ljava/lang/Object;" := f2060.keep K1989q
      have f2062 : Exa Z h1998 aD "[Ljava/lang/Object;" := f2061.ext E1998
      have f2063 : Exa Z T2002.heap aD "[Ljava/lang/Object;" := f2062.keep K2002q
      have f2064 : Arv Z T626.heap aD dK (.object "java/lang/Object") (0 : Int32) dL .null := PD2.keep K626q nin0
      have f2065 : Arv Z h627 aD dK (.object "java/lang/Object") (0 : Int32) dL .null := f2064.keep K627q nin0
      have f2066 : Arv Z h637 aD dK (.object "java/lang/Object") (0 : Int32) dL .null := f2065.keep K637q nin0
      have f2067 : Arv Z h1938 aD dK (.object "java/lang/Object") (0 : Int32) dL .null := f2066.ext E1938
      have f2068 : Arv Z T1940.heap aD dK (.object "java/lang/Object") (0 : Int32) dL .null := f2067.keep K1940q nin0
      have f2069 : Arv Z T1947.heap aD dK (.object "java/lang/Object") (0 : Int32) dL .null := f2068.keep K1947q nin0
      have le2070 : (h0).size ≤ (T626.heap).size := K626q.1
      have le2071 : (h0).size ≤ (h627).size := (Nat.le_trans le2070 K627q.1)
      have le2072 : (h0).size ≤ (h637).size := (Nat.le_trans le2071 K637q.1)
      have ne2073 : aD ≠ b1938 := (Nat.ne_of_lt (Nat.lt_of_lt_of_le (Nat.lt_of_lt_of_le PD1.lt le2072) (Nat.le_of_eq g1938.symm)))
      have f2074 : Arv Z T1959.heap aD dK (.object "java/lang/Object") (0 : Int32) dL .null := f2069.keep K1959q (ninS ne2073 nin0)
      have f2075 : Arv Z h1974 aD dK (.object "java/lang/Object") (0 : Int32) dL .null := f2074.ext E1974
      have f2076 : Arv Z T1976.heap aD dK (.object "java/lang/Object") (0 : Int32) dL .null := f2075.keep K1976q nin0
      have le2077 : (h0).size ≤ (h1938).size := (Nat.le_trans le2072 E1938.1)
      have le2078 : (h0).size ≤ (T1940.heap).size := (Nat.le_trans le2077 K1940q.1)
      have le2079 : (h0).size ≤ (T1947.heap).size := (Nat.le_trans le2078 K1947q.1)
      have le2080 : (h0).size ≤ (T1959.heap).size := (Nat.le_trans le2079 K1959q.1)
      have ne2081 : aD ≠ b1974 := (Nat.ne_of_lt (Nat.lt_of_lt_of_le (Nat.lt_of_lt_of_le PD1.lt le2080) (Nat.le_of_eq g1974.symm)))
      have f2082 : Arv Z T1989.heap aD dK (.object "java/lang/Object") (0 : Int32) dL .null := f2076.keep K1989q (ninS ne2081 nin0)
      have f2083 : Arv Z h1998 aD dK (.object "java/lang/Object") (0 : Int32) dL .null := f2082.ext E1998
      have le2084 : (h0).size ≤ (h1974).size := (Nat.le_trans le2080 E1974.1)
      have le2085 : (h0).size ≤ (T1976.heap).size := (Nat.le_trans le2084 K1976q.1)
      have le2086 : (h0).size ≤ (T1989.heap).size := (Nat.le_trans le2085 K1989q.1)
      have ne2087 : aD ≠ b1998 := (Nat.ne_of_lt (Nat.lt_of_lt_of_le (Nat.lt_of_lt_of_le PD1.lt le2086) (Nat.le_of_eq g1998.symm)))
      have f2088 : Arv Z T2002.heap aD dK (.object "java/lang/Object") (0 : Int32) dL .null := f2083.keep K2002q (ninS ne2087 nin0)
      have f2089 : Exa Z h1974 b1938 "com/example/quaymark/quaymark/Review$LeftOut" := q1959_0.ext E1974
      have f2090 : Exa Z T1976.heap b1938 "com/example/quaymark/quaymark/Review$LeftOut" := f2089.keep K1976q
      have f2091 : Exa Z T1989.heap b1938 "com/example/quaymark/quaymark/Review$LeftOut" := f2090.keep K1989q
      have f2092 : Exa Z h1998 b1938 "com/example/quaymark/quaymark/Review$LeftOut" := f2091.ext E1998
      have f2093 : Exa Z T2002.heap b1938 "com/example/quaymark/quaymark/Review$LeftOut" := f2092.keep K2002q
      have f2094 : Old Z Z.heap.size T2002.heap := f2005.keep K2002q (allS gz2003 all0)
      have f2095 : CHr Z EL s.vm s.heap T1976.vm h1998 := f2007.trans (CHr.ext E1998 f2007.1)
      have f2096 : Safe Z EL T1976.vm T2002.heap b1998 := Safe.keep K2002q (sfS f2008 sf0) f2095.1 f2008
      refine g_if X2002 hx hZ1976 hown1976 (wd177 hw) (wd178 hw) (wd179 hw) rfl (wd180 hw) (wd181 hw) (wd182 hw) (wd183 hw) (wd184 hw) (by decide) q2002_0 rfl (Con.back (W := 0) (rm_add1a l Z a0 hw zC SC PC aE SE aD SD aM SM mO MO b1998 b1938 dK dL T2002.heap f2094 q2002_0 q2002_2 q2002_3 gz2003 f2063 f2088 f2093 q2002_1) hZ1976 (wd185 hw) (wd46 hw) (by decide) (by decide)) (by rw [hml]; rfl) (lenOf pd20 rfl) rfl (Nat.le_of_eq rfl) (hb hby at_138) (q := 143) rfl (by decide) (by decide) ?_
      intro v2051 T2051 L2051 X2051 Q2051
      obtain ⟨r_2051, kr_2051, rfl, Nq2051, K2051q, q2051_0, q2051_1, q2051_2, q2051_3, q2051_4, q2051_5, q2051_6, q2051_7⟩ := Q2051
      have N2051 := Fr.app N2002 Nq2051
      show Go _ _ _ _ (T2051.setTop (mkF m 143 #[.val (.int p0), .val (.int p1), .val (.int p2), .val (.int p3), .val (.int p4), .val (.int p5), .val (.ref r_626), .val ov627, .val ov637, .val .null, .val (.int (1 : Int32)), .val (.ref b1938), .val (.ref b1974), .val (.ref b1998), .unset, .unset, .unset, .unset] [(.int (1 : Int32))]))
      refine g_pop X2051 hx (hb hby at_143) (q := 144) rfl rfl ?_
      refine iLw X2051 hx (hb hby at_144) (q := 146) rfl rfl ?_
      refine cI X2051 hx (hb hby at_146) (q := 147) rfl (z := (2 : Int32)) rfl ?_
      refine icY X2051 hx (hb hby at_147) (q := 160) (by decide) (by decide) (by decide) ?_
      refine g_new X2051 hx hZ1976 hown1976 (wd68 hw) (wd69 hw) (wd70 hw) (by decide) (by decide) rfl (hb hby at_160) (q := 163) rfl ?_
      intro T2097 h2097 b2097 g2097 X2097 e2097 E2097 A2097 D2097
      have sf2098 : Safe Z EL T1976.vm T2051.heap b2097 := Safe.new (Nat.le_of_eq g2097.symm)
      have F2097_105 := D2097 (Or.inr (wd105 hw)) (ty := (.object "java/lang/String")) (by decide)
      have F2097_107 := D2097 (Or.inr (wd107 hw)) (ty := (.object "java/util/List")) (by decide)
      have F2097_109 := D2097 (Or.inr (wd109 hw)) (ty := (.object "java/lang/String")) (by decide)
      have F2097_111 := D2097 (Or.inr (wd111 hw)) (ty := (.object "com/example/quaymark/quaymark/Review$Withdrawal")) (by decide)
      refine g_dup X2097 hx (hb hby at_163) (q := 164) rfl rfl ?_
      refine aLw X2097 hx (hb hby at_164) (q := 166) rfl rfl rfl ?_
      refine aLw X2097 hx (hb hby at_166) (q := 168) rfl rfl rfl ?_
      refine aLw X2097 hx (hb hby at_168) (q := 170) rfl rfl r627 ?_
      refine aLw X2097 hx (hb hby at_170) (q := 172) rfl rfl r637 ?_
      have f2115 : Old Z Z.heap.size T2051.heap := f2094.keep K2051q (allS gz2003 all0)
      have gz2114 : Z.heap.size ≤ b2097 := Nat.le_trans f2115.2.1 (Nat.le_of_eq g2097.symm)
      have f2116 : Exa Z h2097 b1998 "java/util/ArrayList" := q2051_0.ext E2097
      have f2117 : Fld Z h2097 b1998 "java/util/ArrayList" "size" "I" (.int (1 : Int32)) := q2051_1.ext E2097
      have f2118 : Fld Z h2097 b1998 "java/util/ArrayList" "elementData" "[Ljava/lang/Object;" (.ref r_2051) := q2051_2.ext E2097
      have f2119 : Arv Z h2097 r_2051 kr_2051 (.object "java/lang/Object") (10 : Int32) [(.ref b1938), .null, .null, .null, .null, .null, .null, .null, .null, .null] .null := q2051_4.ext E2097
      have f2120 : Exa Z h2097 r_2051 "[Ljava/lang/Object;" := q2051_5.ext E2097
      have f2121 : Exa Z T2051.heap b1938 "com/example/quaymark/quaymark/Review$LeftOut" := f2093.keep K2051q
      have f2122 : Exa Z h2097 b1938 "com/example/quaymark/quaymark/Review$LeftOut" := f2121.ext E2097
      have f2123 : Old Z Z.heap.size h2097 := f2115.ext E2097
      have f2124 : CHr Z EL s.vm s.heap T1976.vm T2002.heap := f2095.trans (CHr.keep K2002q (sfS f2008 sf0) f2095.1)
      have f2125 : CHr Z EL s.vm s.heap T1976.vm T2051.heap := f2124.trans (CHr.keep K2051q (sfS f2096 sf0) f2124.1)
      have f2126 : Safe Z EL T1976.vm h2097 b2097 := Safe.ext E2097 f2125.1 sf2098
      refine g_sp X2097 hx hZ1976 hown1976 (wd71 hw) (wd72 hw) (wd73 hw) rfl (by decide) e2097 (Con.back (W := 1) (rm_rv1 l Z a0 hw zC SC PC aE SE aD SD aM SM mO MO b2097 r_626 ov627 ov637 b1998 r_2051 kr_2051 b1938 h2097 f2123 A2097 F2097_105 F2097_107 F2097_109 F2097_111 gz2114 r627 r637 f2116 f2117 f2118 f2119 f2120 f2122) hZ1976 (wd73 hw) (wd70 hw) (by decide) (by decide)) (by rw [hml]; rfl) (lenOf pd21 rfl) rfl (Nat.le_of_eq rfl) (hb hby at_172) (q := 175) rfl (by decide) (by decide) ?_
      intro v2113 T2113 L2113 X2113 Q2113
      obtain ⟨q_2113, rfl, Nq2113, K2113q, q2113_0, q2113_1, q2113_2, q2113_3, q2113_4, q2113_5, q2113_6, q2113_7, q2113_8⟩ := Q2113
      have N2113 := Fr.app N2051 Nq2113
      show Go _ _ _ _ (T2113.setTop (mkF m 175 #[.val (.int p0), .val (.int p1), .val (.int p2), .val (.int p3), .val (.int p4), .val (.int p5), .val (.ref r_626), .val ov627, .val ov637, .val .null, .val (.int (1 : Int32)), .val (.ref b1938), .val (.ref b1974), .val (.ref b1998), .unset, .unset, .unset, .unset] [(.ref b2097)]))
      refine sAw X2113 hx (hb hby at_175) (q := 177) rfl rfl (Ls' := #[.val (.int p0), .val (.int p1), .val (.int p2), .val (.int p3), .val (.int p4), .val (.int p5), .val (.ref r_626), .val ov627, .val ov637, .val .null, .val (.int (1 : Int32)), .val (.ref b1938), .val (.ref b1974), .val (.ref b1998), .val (.ref b2097), .unset, .unset, .unset]) rfl ?_
      refine aLw X2113 hx (hb hby at_177) (q := 179) rfl rfl rfl ?_
      refine aLw X2113 hx (hb hby at_179) (q := 181) rfl rfl rfl ?_
      have f2128 : Old Z Z.heap.size T2113.heap := f2123.keep K2113q (allS gz2114 all0)
      refine g_vi X2113 hx hZ1976 hown1976 (wd112 hw) (wd113 hw) (notFace_of_selects (args := #[]) (mvT hZ1976 (wd115 hw))) (wd115 hw) (wd114 hw) (by decide) q2113_0 rfl (Con.back (W := 0) (rm_sgnL l Z a0 hw zC SC PC aE SE aD SD aM SM mO MO b2097 r_626 .null q_2113 T2113.heap f2128 q2113_1 q2113_2 q2113_6 rfl) hZ1976 (wd116 hw) (wd70 hw) (by decide) (by decide)) (by rw [hml]; rfl) (lenOf pd25 rfl) rfl (Nat.le_of_eq rfl) (hb hby at_181) (q := 184) rfl (by decide) (by decide) ?_
      intro v2127 T2127 L2127 X2127 Q2127
      obtain ⟨r_2127, rfl, Nq2127, K2127q, q2127_0, q2127_1, q2127_2, q2127_3, q2127_4, q2127_5⟩ := Q2127
      have N2127 := Fr.app N2113 Nq2127
      show Go _ _ _ _ (T2127.setTop (mkF m 184 #[.val (.int p0), .val (.int p1), .val (.int p2), .val (.int p3), .val (.int p4), .val (.int p5), .val (.ref r_626), .val ov627, .val ov637, .val .null, .val (.int (1 : Int32)), .val (.ref b1938), .val (.ref b1974), .val (.ref b1998), .val (.ref b2097), .unset, .unset, .unset] [(.ref r_2127)]))
      refine sAw X2127 hx (hb hby at_184) (q := 186) rfl rfl (Ls' := #[.val (.int p0), .val (.int p1), .val (.int p2), .val (.int p3), .val (.int p4), .val (.int p5), .val (.ref r_626), .val ov627, .val ov637, .val .null, .val (.int (1 : Int32)), .val (.ref b1938), .val (.ref b1974), .val (.ref b1998), .val (.ref b2097), .val (.ref r_2127), .unset, .unset]) rfl ?_
      refine aLw X2127 hx (hb hby at_186) (q := 188) rfl rfl rfl ?_
      have f2130 : Old Z Z.heap.size T2127.heap := f2128.keep K2127q all0
      refine g_vi X2127 hx hZ1976 hown1976 (wd127 hw) (wd128 hw) (notFace_of_selects (args := #[]) (mvT hZ1976 (wd130 hw))) (wd130 hw) (wd129 hw) (by decide) q2127_1 rfl (Con.back (W := 0) (rm_get_leftOut l Z a0 hw zC SC PC aE SE aD SD aM SM mO MO r_2127 q_2113 T2127.heap f2130 q2127_3) hZ1976 (wd131 hw) (wd70 hw) (by decide) (by decide)) (by rw [hml]; rfl) (lenOf pd14 rfl) rfl (Nat.le_of_eq rfl) (hb hby at_188) (q := 191) rfl (by decide) (by decide) ?_
      intro v2129 T2129 L2129 X2129 Q2129
      obtain ⟨rfl, Nq2129, e2129⟩ := Q2129
      have N2129 := Fr.app N2127 Nq2129
      show Go _ _ _ _ (T2129.setTop (mkF m 191 #[.val (.int p0), .val (.int p1), .val (.int p2), .val (.int p3), .val (.int p4), .val (.int p5), .val (.ref r_626), .val ov627, .val ov637, .val .null, .val (.int (1 : Int32)), .val (.ref b1938), .val (.ref b1974), .val (.ref b1998), .val (.ref b2097), .val (.ref r_2127), .unset, .unset] [(.ref q_2113)]))
      refine sAw X2129 hx (hb hby at_191) (q := 193) rfl rfl (Ls' := #[.val (.int p0), .val (.int p1), .val (.int p2), .val (.int p3), .val (.int p4), .val (.int p5), .val (.ref r_626), .val ov627, .val ov637, .val .null, .val (.int (1 : Int32)), .val (.ref b1938), .val (.ref b1974), .val (.ref b1998), .val (.ref b2097), .val (.ref r_2127), .val (.ref q_2113), .unset]) rfl ?_
      refine aLw X2129 hx (hb hby at_193) (q := 195) rfl rfl rfl ?_
      have f2133 : Fld Z T2127.heap q_2113 "java/util/ImmutableCollections$List12" "e1" "Ljava/lang/Object;" (.ref aM) := q2113_8.keep K2127q nin0
      have f2134 : Exa Z T2127.heap q_2113 "java/util/ImmutableCollections$List12" := q2113_6.keep K2127q
      refine g_if X2129 hx hZ1976 hown1976 (wd132 hw) (wd133 hw) (wd134 hw) rfl (wd274 hw) (wd275 hw) (wd276 hw) (wd277 hw) (wd273 hw) (by decide) f2134 e2129 (Con.back (W := 0) (rm_size1 l Z a0 hw zC SC PC aE SE aD SD aM SM mO MO q_2113 T2127.heap f2130 f2133) hZ1976 (wd278 hw) (wd245 hw) (by decide) (by decide)) (by rw [hml]; rfl) (lenOf pd26 rfl) rfl (Nat.le_of_eq rfl) (hb hby at_195) (q := 200) rfl (by decide) (by decide) ?_
      intro v2132 T2132 L2132 X2132 Q2132
      obtain ⟨rfl, Nq2132, e2132⟩ := Q2132
      have N2132 := Fr.app N2129 Nq2132
      show Go _ _ _ _ (T2132.setTop (mkF m 200 #[.val (.int p0), .val (.int p1), .val (.int p2), .val (.int p3), .val (.int p4), .val (.int p5), .val (.ref r_626), .val ov627, .val ov637, .val .null, .val (.int (1 : Int32)), .val (.ref b1938), .val (.ref b1974), .val (.ref b1998), .val (.ref b2097), .val (.ref r_2127), .val (.ref q_2113), .unset] [(.int (1 : Int32))]))
      refine iLw X2132 hx (hb hby at_200) (q := 202) rfl rfl ?_
      refine icN X2132 hx (hb hby at_202) (q := 205) rfl (by decide) ?_
      refine iLw X2132 hx (hb hby at_205) (q := 207) rfl rfl ?_
      refine cI X2132 hx (hb hby at_207) (q := 208) rfl (z := (1 : Int32)) rfl ?_
      refine icN X2132 hx (hb hby at_208) (q := 211) rfl (by decide) ?_
      refine aLw X2132 hx (hb hby at_211) (q := 213) rfl rfl rfl ?_
      refine cI X2132 hx (hb hby at_213) (q := 214) rfl (z := (0 : Int32)) rfl ?_
      have f2137 : Fld Z T2127.heap q_2113 "java/util/ImmutableCollections$List12" "e0" "Ljava/lang/Object;" (.ref b1938) := q2113_7.keep K2127q nin0
      refine g_if X2132 hx hZ1976 hown1976 (wd279 hw) (wd280 hw) (wd281 hw) rfl (wd282 hw) (wd283 hw) (wd284 hw) (wd285 hw) (wd273 hw) (by decide) f2134 e2132 (Con.back (W := 0) (rm_get0 l Z a0 hw zC SC PC aE SE aD SD aM SM mO MO q_2113 b1938 T2127.heap f2130 f2137) hZ1976 (wd286 hw) (wd245 hw) (by decide) (by decide)) (by rw [hml]; rfl) (lenOf pd30 rfl) rfl (Nat.le_of_eq rfl) (hb hby at_214) (q := 219) rfl (by decide) (by decide) ?_
      intro v2136 T2136 L2136 X2136 Q2136
      obtain ⟨rfl, Nq2136, e2136⟩ := Q2136
      have N2136 := Fr.app N2132 Nq2136
      show Go _ _ _ _ (T2136.setTop (mkF m 219 #[.val (.int p0), .val (.int p1), .val (.int p2), .val (.int p3), .val (.int p4), .val (.int p5), .val (.ref r_626), .val ov627, .val ov637, .val .null, .val (.int (1 : Int32)), .val (.ref b1938), .val (.ref b1974), .val (.ref b1998), .val (.ref b2097), .val (.ref r_2127), .val (.ref q_2113), .unset] [(.ref b1938)]))
      refine aLw X2136 hx (hb hby at_219) (q := 221) rfl rfl rfl ?_
      refine g_acmp X2136 hx (hb hby at_221) (q := 224) rfl rfl (same := true) (decide_eq_true rfl) (by decide) (by decide) ?_
      refine iLw X2136 hx (hb hby at_224) (q := 226) rfl rfl ?_
      refine cI X2136 hx (hb hby at_226) (q := 227) rfl (z := (2 : Int32)) rfl ?_
      refine icY X2136 hx (hb hby at_227) (q := 243) (by decide) (by decide) (by decide) ?_
      refine cI X2136 hx (hb hby at_243) (q := 244) rfl (z := (1 : Int32)) rfl ?_
      refine g_goto X2136 hx (hb hby at_244) (q := 248) (by decide) (by decide) ?_
      refine sIw X2136 hx (hb hby at_248) (q := 250) rfl (Ls' := #[.val (.int p0), .val (.int p1), .val (.int p2), .val (.int p3), .val (.int p4), .val (.int p5), .val (.ref r_626), .val ov627, .val ov637, .val .null, .val (.int (1 : Int32)), .val (.ref b1938), .val (.ref b1974), .val (.ref b1998), .val (.ref b2097), .val (.ref r_2127), .val (.ref q_2113), .val (.int (1 : Int32))]) rfl ?_
      refine iLw X2136 hx (hb hby at_250) (q := 252) rfl rfl ?_
      refine ifN X2136 hx (hb hby at_252) (q := 255) rfl (by decide) ?_
      refine aLw X2136 hx (hb hby at_255) (q := 257) rfl rfl rfl ?_
      refine g_vi X2136 hx hZ1976 hown1976 (wd143 hw) (wd144 hw) (notFace_of_selects (args := #[]) (mvT hZ1976 (wd146 hw))) (wd146 hw) (wd145 hw) (by decide) q2127_1 e2136 (Con.back (W := 0) (rm_get_submittedBy l Z a0 hw zC SC PC aE SE aD SD aM SM mO MO r_2127 r_626 T2127.heap f2130 q2127_2) hZ1976 (wd147 hw) (wd70 hw) (by decide) (by decide)) (by rw [hml]; rfl) (lenOf pd27 rfl) rfl (Nat.le_of_eq rfl) (hb hby at_257) (q := 260) rfl (by decide) (by decide) ?_
      intro v2138 T2138 L2138 X2138 Q2138
      obtain ⟨rfl, Nq2138, e2138⟩ := Q2138
      have N2138 := Fr.app N2136 Nq2138
      show Go _ _ _ _ (T2138.setTop (mkF m 260 #[.val (.int p0), .val (.int p1), .val (.int p2), .val (.int p3), .val (.int p4), .val (.int p5), .val (.ref r_626), .val ov627, .val ov637, .val .null, .val (.int (1 : Int32)), .val (.ref b1938), .val (.ref b1974), .val (.ref b1998), .val (.ref b2097), .val (.ref r_2127), .val (.ref q_2113), .val (.int (1 : Int32))] [(.ref r_626)]))
      refine aLw X2138 hx (hb hby at_260) (q := 262) rfl rfl rfl ?_
      have f2155 : Exa Z h627 r_626 "java/lang/String" := q626_1.keep K627q
      have f2156 : Exa Z h637 r_626 "java/lang/String" := f2155.keep K637q
      have f2157 : Exa Z h1938 r_626 "java/lang/String" := f2156.ext E1938
      have f2158 : Exa Z T1940.heap r_626 "java/lang/String" := f2157.keep K1940q
      have f2159 : Exa Z T1947.heap r_626 "java/lang/String" := f2158.keep K1947q
      have f2160 : Exa Z T1959.heap r_626 "java/lang/String" := f2159.keep K1959q
      have f2161 : Exa Z h1974 r_626 "java/lang/String" := f2160.ext E1974
      have f2162 : Exa Z T1976.heap r_626 "java/lang/String" := f2161.keep K1976q
      have f2163 : Exa Z T1989.heap r_626 "java/lang/String" := f2162.keep K1989q
      have f2164 : Exa Z h1998 r_626 "java/lang/String" := f2163.ext E1998
      have f2165 : Exa Z T2002.heap r_626 "java/lang/String" := f2164.keep K2002q
      have f2166 : Exa Z T2051.heap r_626 "java/lang/String" := f2165.keep K2051q
      have f2167 : Exa Z h2097 r_626 "java/lang/String" := f2166.ext E2097
      have f2168 : Exa Z T2113.heap r_626 "java/lang/String" := f2167.keep K2113q
      have f2169 : Exa Z T2127.heap r_626 "java/lang/String" := f2168.keep K2127q
      refine g_st X2138 hx hZ1976 hown1976 (wd148 hw) (wd149 hw) (wd2 hw) (wd150 hw) (by decide) e2138 (Con.back (W := 0) (rm_samer l Z a0 hw zC SC PC aE SE aD SD aM SM mO MO r_626 T2127.heap f2130 f2169) hZ1976 (wd150 hw) (wd2 hw) (by decide) (by decide)) (by rw [hml]; rfl) (lenOf pd28 rfl) rfl (Nat.le_of_eq rfl) (hb hby at_262) (q := 265) rfl (by decide) (by decide) ?_
      intro v2154 T2154 L2154 X2154 Q2154
      obtain ⟨rfl, Nq2154, e2154⟩ := Q2154
      have N2154 := Fr.app N2138 Nq2154
      show Go _ _ _ _ (T2154.setTop (mkF m 265 #[.val (.int p0), .val (.int p1), .val (.int p2), .val (.int p3), .val (.int p4), .val (.int p5), .val (.ref r_626), .val ov627, .val ov637, .val .null, .val (.int (1 : Int32)), .val (.ref b1938), .val (.ref b1974), .val (.ref b1998), .val (.ref b2097), .val (.ref r_2127), .val (.ref q_2113), .val (.int (1 : Int32))] [(.int (1 : Int32))]))
      refine ifN X2154 hx (hb hby at_265) (q := 268) rfl (by decide) ?_
      refine aLw X2154 hx (hb hby at_268) (q := 270) rfl rfl rfl ?_
      refine g_vi X2154 hx hZ1976 hown1976 (wd156 hw) (wd157 hw) (notFace_of_selects (args := #[]) (mvT hZ1976 (wd159 hw))) (wd159 hw) (wd158 hw) (by decide) q2127_1 e2154 (Con.back (W := 0) (rm_get_signedOffBy l Z a0 hw zC SC PC aE SE aD SD aM SM mO MO r_2127 .null T2127.heap f2130 q2127_4 rfl) hZ1976 (wd160 hw) (wd70 hw) (by decide) (by decide)) (by rw [hml]; rfl) (lenOf pd27 rfl) rfl (Nat.le_of_eq rfl) (hb hby at_270) (q := 273) rfl (by decide) (by decide) ?_
      intro v2170 T2170 L2170 X2170 Q2170
      obtain ⟨rfl, Nq2170, e2170⟩ := Q2170
      have N2170 := Fr.app N2154 Nq2170
      show Go _ _ _ _ (T2170.setTop (mkF m 273 #[.val (.int p0), .val (.int p1), .val (.int p2), .val (.int p3), .val (.int p4), .val (.int p5), .val (.ref r_626), .val ov627, .val ov637, .val .null, .val (.int (1 : Int32)), .val (.ref b1938), .val (.ref b1974), .val (.ref b1998), .val (.ref b2097), .val (.ref r_2127), .val (.ref q_2113), .val (.int (1 : Int32))] [.null]))
      refine aLw X2170 hx (hb hby at_273) (q := 275) rfl rfl rfl ?_
      refine g_st X2170 hx hZ1976 hown1976 (wd148 hw) (wd149 hw) (wd2 hw) (wd150 hw) (by decide) e2170 (Con.back (W := 0) (rm_samen l Z a0 hw zC SC PC aE SE aD SD aM SM mO MO  T2127.heap f2130 ) hZ1976 (wd150 hw) (wd2 hw) (by decide) (by decide)) (by rw [hml]; rfl) (lenOf pd28 rfl) rfl (Nat.le_of_eq rfl) (hb hby at_275) (q := 278) rfl (by decide) (by decide) ?_
      intro v2171 T2171 L2171 X2171 Q2171
      obtain ⟨rfl, Nq2171, e2171⟩ := Q2171
      have N2171 := Fr.app N2170 Nq2171
      show Go _ _ _ _ (T2171.setTop (mkF m 278 #[.val (.int p0), .val (.int p1), .val (.int p2), .val (.int p3), .val (.int p4), .val (.int p5), .val (.ref r_626), .val ov627, .val ov637, .val .null, .val (.int (1 : Int32)), .val (.ref b1938), .val (.ref b1974), .val (.ref b1998), .val (.ref b2097), .val (.ref r_2127), .val (.ref q_2113), .val (.int (1 : Int32))] [(.int (1 : Int32))]))
      refine ifN X2171 hx (hb hby at_278) (q := 281) rfl (by decide) ?_
      refine aLw X2171 hx (hb hby at_281) (q := 283) rfl rfl rfl ?_
      refine g_vi X2171 hx hZ1976 hown1976 (wd161 hw) (wd162 hw) (notFace_of_selects (args := #[]) (mvT hZ1976 (wd164 hw))) (wd164 hw) (wd163 hw) (by decide) q2127_1 e2171 (Con.back (W := 0) (rm_get_withdrawn l Z a0 hw zC SC PC aE SE aD SD aM SM mO MO r_2127 T2127.heap f2130 q2127_5) hZ1976 (wd165 hw) (wd70 hw) (by decide) (by decide)) (by rw [hml]; rfl) (lenOf pd29 rfl) rfl (Nat.le_of_eq rfl) (hb hby at_283) (q := 286) rfl (by decide) (by decide) ?_
      intro v2172 T2172 L2172 X2172 Q2172
      obtain ⟨rfl, Nq2172, e2172⟩ := Q2172
      have N2172 := Fr.app N2171 Nq2172
      show Go _ _ _ _ (T2172.setTop (mkF m 286 #[.val (.int p0), .val (.int p1), .val (.int p2), .val (.int p3), .val (.int p4), .val (.int p5), .val (.ref r_626), .val ov627, .val ov637, .val .null, .val (.int (1 : Int32)), .val (.ref b1938), .val (.ref b1974), .val (.ref b1998), .val (.ref b2097), .val (.ref r_2127), .val (.ref q_2113), .val (.int (1 : Int32))] [.null]))
      refine nnN X2172 hx (hb hby at_286) (q := 289) rfl ?_
      refine cI X2172 hx (hb hby at_289) (q := 290) rfl (z := (1 : Int32)) rfl ?_
      refine g_goto X2172 hx (hb hby at_290) (q := 294) (by decide) (by decide) ?_
      have le2173 : (T1976.heap).size ≤ (T1989.heap).size := K1989q.1
      have le2174 : (T1976.heap).size ≤ (h1998).size := (Nat.le_trans le2173 E1998.1)
      have le2175 : (T1976.heap).size ≤ (T2002.heap).size := (Nat.le_trans le2174 K2002q.1)
      have le2176 : (T1976.heap).size ≤ (T2051.heap).size := (Nat.le_trans le2175 K2051q.1)
      have le2177 : (T1976.heap).size ≤ (h2097).size := (Nat.le_trans le2176 E2097.1)
      have le2178 : (T1976.heap).size ≤ (T2113.heap).size := (Nat.le_trans le2177 K2113q.1)
      have le2179 : (T1976.heap).size ≤ (T2127.heap).size := (Nat.le_trans le2178 K2127q.1)
      have f2180 : CHr Z EL s.vm s.heap T1976.vm h2097 := f2125.trans (CHr.ext E2097 f2125.1)
      have f2181 : CHr Z EL s.vm s.heap T1976.vm T2113.heap := f2180.trans (CHr.keep K2113q (sfS f2126 sf0) f2180.1)
      have f2182 : CHr Z EL s.vm s.heap T1976.vm T2127.heap := f2181.trans (CHr.keep K2127q sf0 f2181.1)
      refine endC X2172 hlk hS1976 (by rw [e2172]; exact (Nat.le_trans (Nat.le_refl _) le2179)) hZ1976 (own_EW hw) (by rw [e2172]; exact f2182) (fun h => by rw [hret] at h; cases h) (lastN X2172 hx (t := .boolean) (z' := (1 : Int32)) hret (by simp) (by decide) (hb hby at_294)) ?_ (by decide) (by decide)
      rw [e2172]
      exact ⟨rfl, N2172, trivial⟩
    · rw [hk1642]
      show Go _ _ _ _ (T637.setTop (mkF m 76 #[.val (.int p0), .val (.int p1), .val (.int p2), .val (.int p3), .val (.int p4), .val (.int p5), .val (.ref r_626), .val ov627, .val ov637, .val .null, .unset, .unset, .unset, .unset, .unset, .unset, .unset, .unset] [(.int (2 : Int32))]))
      refine sIw X637 hx (hb hby at_76) (q := 78) rfl (Ls' := #[.val (.int p0), .val (.int p1), .val (.int p2), .val (.int p3), .val (.int p4), .val (.int p5), .val (.ref r_626), .val ov627, .val ov637, .val .null, .val (.int (2 : Int32)), .unset, .unset, .unset, .unset, .unset, .unset, .unset]) rfl ?_
      refine g_new X637 hx hZ637 hown637 (wd26 hw) (wd27 hw) (wd28 hw) (by decide) (by decide) e637 (hb hby at_78) (q := 81) rfl ?_
      intro T2183 h2183 b2183 g2183 X2183 e2183 E2183 A2183 D2183
      have sf2184 : Safe Z EL vw637 h637 b2183 := Safe.new (Nat.le_of_eq g2183.symm)
      have F2183_39 := D2183 (Or.inr (wd39 hw)) (ty := .int) (by decide)
      have F2183_41 := D2183 (Or.inr (wd41 hw)) (ty := (.object "java/lang/String")) (by decide)
      have F2183_43 := D2183 (Or.inr (wd43 hw)) (ty := (.object "java/lang/String")) (by decide)
      refine g_dup X2183 hx (hb hby at_81) (q := 82) rfl rfl ?_
      refine iLw X2183 hx (hb hby at_82) (q := 84) rfl rfl ?_
      refine iLw X2183 hx (hb hby at_84) (q := 86) rfl rfl ?_
      have f2186 : Old Z Z.heap.size T626.heap := O0.keep K626q all0
      have f2187 : Old Z Z.heap.size h627 := f2186.keep K627q all0
      have f2188 : Old Z Z.heap.size h637 := f2187.keep K637q all0
      have f2189 : Old Z Z.heap.size h2183 := f2188.ext E2183
      have f2190 : CHr Z EL s.vm s.heap vw637 h2183 := C637.trans (CHr.ext E2183 C637.1)
      have le2191 : (h637).size ≤ (h2183).size := E2183.1
      refine g_stS X2183 hx hZ637 hown637 hS637 (Nat.le_trans hk637 le2191) (wd0 hw) (wd1 hw) (wd2 hw) (wd3 hw) (by decide) e2183 (ConS.back (W := 3) (rm_str l Z a0 hw zC SC PC aE SE aD SD aM SM mO MO p5 h2183 f2189 ) hZ637 (wd3 hw) (wd2 hw) (by decide) (by decide) (own_EW hw) f2190.1 sf0 all0) (by rw [hml]; rfl) (lenOf pd22 rfl) rfl (Nat.le_of_eq rfl) (hb hby at_86) (q := 89) rfl (by decide) (by decide) ?_
      rintro v2185 T2185 L2185 ⟨X2185, hS2185, hZ2185, hown2185, R2185⟩ Q2185
      obtain ⟨r_2185, rfl, Nq2185, K2185q, q2185_0, q2185_1⟩ := Q2185
      have N2185 := Fr.app N637 Nq2185
      show Go _ _ _ _ (T2185.setTop (mkF m 89 #[.val (.int p0), .val (.int p1), .val (.int p2), .val (.int p3), .val (.int p4), .val (.int p5), .val (.ref r_626), .val ov627, .val ov637, .val .null, .val (.int (2 : Int32)), .unset, .unset, .unset, .unset, .unset, .unset, .unset] [(.ref r_2185), (.int p4), (.ref b2183), (.ref b2183)]))
      refine iL X2185 hx (hb hby at_89) (q := 90) rfl rfl ?_
      refine bI X2185 hx (hb hby at_90) (q := 92) rfl (z := (16 : Int32)) rfl ?_
      refine g_iushr X2185 hx (hb hby at_92) (q := 93) rfl rfl ?_
      have f2193 : Old Z Z.heap.size T2185.heap := f2189.keep K2185q all0
      have f2194 : CHr Z EL s.vm s.heap T2185.vm T2185.heap := f2190.trans R2185
      refine g_stS X2185 hx hZ2185 hown2185 hS2185 (Nat.le_trans (Nat.le_refl _) (Nat.le_refl _)) (wd0 hw) (wd1 hw) (wd2 hw) (wd3 hw) (by decide) rfl (ConS.back (W := 4) (rm_str l Z a0 hw zC SC PC aE SE aD SD aM SM mO MO ((p0.toUInt32 >>> ((16 : Int32) &&& 31).toUInt32).toInt32) T2185.heap f2193 ) hZ2185 (wd3 hw) (wd2 hw) (by decide) (by decide) (own_EW hw) f2194.1 sf0 all0) (by rw [hml]; rfl) (lenOf pd22 rfl) rfl (Nat.le_of_eq rfl) (hb hby at_93) (q := 96) rfl (by decide) (by decide) ?_
      rintro v2192 T2192 L2192 ⟨X2192, hS2192, hZ2192, hown2192, R2192⟩ Q2192
      obtain ⟨r_2192, rfl, Nq2192, K2192q, q2192_0, q2192_1⟩ := Q2192
      have N2192 := Fr.app N2185 Nq2192
      show Go _ _ _ _ (T2192.setTop (mkF m 96 #[.val (.int p0), .val (.int p1), .val (.int p2), .val (.int p3), .val (.int p4), .val (.int p5), .val (.ref r_626), .val ov627, .val ov637, .val .null, .val (.int (2 : Int32)), .unset, .unset, .unset, .unset, .unset, .unset, .unset] [(.ref r_2192), (.ref r_2185), (.int p4), (.ref b2183), (.ref b2183)]))
      have f2205 : Exa Z T2185.heap b2183 "com/example/quaymark/quaymark/Review$LeftOut" := A2183.keep K2185q
      have f2206 : Exa Z T2192.heap b2183 "com/example/quaymark/quaymark/Review$LeftOut" := f2205.keep K2192q
      have f2207 : Fld Z T2185.heap b2183 "com/example/quaymark/quaymark/Review$LeftOut" "line" "I" (.int (0 : Int32)) := F2183_39.keep K2185q nin0
      have f2208 : Fld Z T2192.heap b2183 "com/example/quaymark/quaymark/Review$LeftOut" "line" "I" (.int (0 : Int32)) := f2207.keep K2192q nin0
      have f2209 : Fld Z T2185.heap b2183 "com/example/quaymark/quaymark/Review$LeftOut" "reason" "Ljava/lang/String;" .null := F2183_41.keep K2185q nin0
      have f2210 : Fld Z T2192.heap b2183 "com/example/quaymark/quaymark/Review$LeftOut" "reason" "Ljava/lang/String;" .null := f2209.keep K2192q nin0
      have f2211 : Fld Z T2185.heap b2183 "com/example/quaymark/quaymark/Review$LeftOut" "by" "Ljava/lang/String;" .null := F2183_43.keep K2185q nin0
      have f2212 : Fld Z T2192.heap b2183 "com/example/quaymark/quaymark/Review$LeftOut" "by" "Ljava/lang/String;" .null := f2211.keep K2192q nin0
      have gz2213 : Z.heap.size ≤ b2183 := Nat.le_trans f2188.2.1 (Nat.le_of_eq g2183.symm)
      have f2214 : Old Z Z.heap.size T2192.heap := f2193.keep K2192q all0
      have f2215 : Safe Z EL vw637 h2183 b2183 := Safe.ext E2183 C637.1 sf2184
      have f2216 : Safe Z EL T2185.vm T2185.heap b2183 := R2185.safe (Nat.lt_of_lt_of_le A2183.lt (Nat.le_refl _)) f2215
      have le2217 : (h2183).size ≤ (T2185.heap).size := K2185q.1
      have f2218 : Safe Z EL T2192.vm T2192.heap b2183 := R2192.safe (Nat.lt_of_lt_of_le A2183.lt le2217) f2216
      refine g_sp X2192 hx hZ2192 hown2192 (wd29 hw) (wd30 hw) (wd31 hw) rfl (by decide) rfl (Con.back (W := 1) (rm_loinit l Z a0 hw zC SC PC aE SE aD SD aM SM mO MO b2183 p4 r_2185 r_2192 T2192.heap f2214 f2206 f2208 f2210 f2212 gz2213) hZ2192 (wd31 hw) (wd28 hw) (by decide) (by decide)) (by rw [hml]; rfl) (lenOf pd24 rfl) rfl (Nat.le_of_eq rfl) (hb hby at_96) (q := 99) rfl (by decide) (by decide) ?_
      intro v2204 T2204 L2204 X2204 Q2204
      obtain ⟨rfl, Nq2204, K2204q, q2204_0⟩ := Q2204
      have N2204 := Fr.app N2192 Nq2204
      show Go _ _ _ _ (T2204.setTop (mkF m 99 #[.val (.int p0), .val (.int p1), .val (.int p2), .val (.int p3), .val (.int p4), .val (.int p5), .val (.ref r_626), .val ov627, .val ov637, .val .null, .val (.int (2 : Int32)), .unset, .unset, .unset, .unset, .unset, .unset, .unset] [(.ref b2183)]))
      refine sAw X2204 hx (hb hby at_99) (q := 101) rfl rfl (Ls' := #[.val (.int p0), .val (.int p1), .val (.int p2), .val (.int p3), .val (.int p4), .val (.int p5), .val (.ref r_626), .val ov627, .val ov637, .val .null, .val (.int (2 : Int32)), .val (.ref b2183), .unset, .unset, .unset, .unset, .unset, .unset]) rfl ?_
      refine g_new X2204 hx hZ2192 hown2192 (wd26 hw) (wd27 hw) (wd28 hw) (by decide) (by decide) rfl (hb hby at_101) (q := 104) rfl ?_
      intro T2219 h2219 b2219 g2219 X2219 e2219 E2219 A2219 D2219
      have sf2220 : Safe Z EL T2192.vm T2204.heap b2219 := Safe.new (Nat.le_of_eq g2219.symm)
      have F2219_39 := D2219 (Or.inr (wd39 hw)) (ty := .int) (by decide)
      have F2219_41 := D2219 (Or.inr (wd41 hw)) (ty := (.object "java/lang/String")) (by decide)
      have F2219_43 := D2219 (Or.inr (wd43 hw)) (ty := (.object "java/lang/String")) (by decide)
      refine g_dup X2219 hx (hb hby at_104) (q := 105) rfl rfl ?_
      refine iLw X2219 hx (hb hby at_105) (q := 107) rfl rfl ?_
      refine iLw X2219 hx (hb hby at_107) (q := 109) rfl rfl ?_
      have f2222 : Old Z Z.heap.size T2204.heap := f2214.keep K2204q (allS gz2213 all0)
      have f2223 : Old Z Z.heap.size h2219 := f2222.ext E2219
      have f2224 : CHr Z EL s.vm s.heap T2192.vm T2192.heap := f2194.trans R2192
      have f2225 : CHr Z EL s.vm s.heap T2192.vm T2204.heap := f2224.trans (CHr.keep K2204q (sfS f2218 sf0) f2224.1)
      have f2226 : CHr Z EL s.vm s.heap T2192.vm h2219 := f2225.trans (CHr.ext E2219 f2225.1)
      have le2227 : (T2192.heap).size ≤ (T2204.heap).size := K2204q.1
      have le2228 : (T2192.heap).size ≤ (h2219).size := (Nat.le_trans le2227 E2219.1)
      refine g_stS X2219 hx hZ2192 hown2192 hS2192 (Nat.le_trans (Nat.le_refl _) le2228) (wd0 hw) (wd1 hw) (wd2 hw) (wd3 hw) (by decide) e2219 (ConS.back (W := 3) (rm_str l Z a0 hw zC SC PC aE SE aD SD aM SM mO MO p4 h2219 f2223 ) hZ2192 (wd3 hw) (wd2 hw) (by decide) (by decide) (own_EW hw) f2226.1 sf0 all0) (by rw [hml]; rfl) (lenOf pd22 rfl) rfl (Nat.le_of_eq rfl) (hb hby at_109) (q := 112) rfl (by decide) (by decide) ?_
      rintro v2221 T2221 L2221 ⟨X2221, hS2221, hZ2221, hown2221, R2221⟩ Q2221
      obtain ⟨r_2221, rfl, Nq2221, K2221q, q2221_0, q2221_1⟩ := Q2221
      have N2221 := Fr.app N2204 Nq2221
      show Go _ _ _ _ (T2221.setTop (mkF m 112 #[.val (.int p0), .val (.int p1), .val (.int p2), .val (.int p3), .val (.int p4), .val (.int p5), .val (.ref r_626), .val ov627, .val ov637, .val .null, .val (.int (2 : Int32)), .val (.ref b2183), .unset, .unset, .unset, .unset, .unset, .unset] [(.ref r_2221), (.int p5), (.ref b2219), (.ref b2219)]))
      refine aLw X2221 hx (hb hby at_112) (q := 114) rfl rfl rfl ?_
      have f2235 : Exa Z T2221.heap b2219 "com/example/quaymark/quaymark/Review$LeftOut" := A2219.keep K2221q
      have f2236 : Fld Z T2221.heap b2219 "com/example/quaymark/quaymark/Review$LeftOut" "line" "I" (.int (0 : Int32)) := F2219_39.keep K2221q nin0
      have f2237 : Fld Z T2221.heap b2219 "com/example/quaymark/quaymark/Review$LeftOut" "reason" "Ljava/lang/String;" .null := F2219_41.keep K2221q nin0
      have f2238 : Fld Z T2221.heap b2219 "com/example/quaymark/quaymark/Review$LeftOut" "by" "Ljava/lang/String;" .null := F2219_43.keep K2221q nin0
      have gz2239 : Z.heap.size ≤ b2219 := Nat.le_trans f2222.2.1 (Nat.le_of_eq g2219.symm)
      have f2240 : Old Z Z.heap.size T2221.heap := f2223.keep K2221q all0
      have f2241 : Safe Z EL T2192.vm h2219 b2219 := Safe.ext E2219 f2225.1 sf2220
      have f2242 : Safe Z EL T2221.vm T2221.heap b2219 := R2221.safe (Nat.lt_of_lt_of_le A2219.lt (Nat.le_refl _)) f2241
      refine g_sp X2221 hx hZ2221 hown2221 (wd29 hw) (wd30 hw) (wd31 hw) rfl (by decide) rfl (Con.back (W := 1) (rm_loinit l Z a0 hw zC SC PC aE SE aD SD aM SM mO MO b2219 p5 r_2221 r_626 T2221.heap f2240 f2235 f2236 f2237 f2238 gz2239) hZ2221 (wd31 hw) (wd28 hw) (by decide) (by decide)) (by rw [hml]; rfl) (lenOf pd24 rfl) rfl (Nat.le_of_eq rfl) (hb hby at_114) (q := 117) rfl (by decide) (by decide) ?_
      intro v2234 T2234 L2234 X2234 Q2234
      obtain ⟨rfl, Nq2234, K2234q, q2234_0⟩ := Q2234
      have N2234 := Fr.app N2221 Nq2234
      show Go _ _ _ _ (T2234.setTop (mkF m 117 #[.val (.int p0), .val (.int p1), .val (.int p2), .val (.int p3), .val (.int p4), .val (.int p5), .val (.ref r_626), .val ov627, .val ov637, .val .null, .val (.int (2 : Int32)), .val (.ref b2183), .unset, .unset, .unset, .unset, .unset, .unset] [(.ref b2219)]))
      refine sAw X2234 hx (hb hby at_117) (q := 119) rfl rfl (Ls' := #[.val (.int p0), .val (.int p1), .val (.int p2), .val (.int p3), .val (.int p4), .val (.int p5), .val (.ref r_626), .val ov627, .val ov637, .val .null, .val (.int (2 : Int32)), .val (.ref b2183), .val (.ref b2219), .unset, .unset, .unset, .unset, .unset]) rfl ?_
      refine g_new X2234 hx hZ2221 hown2221 (wd44 hw) (wd45 hw) (wd46 hw) (by decide) (by decide) rfl (hb hby at_119) (q := 122) rfl ?_
      intro T2243 h2243 b2243 g2243 X2243 e2243 E2243 A2243 D2243
      have sf2244 : Safe Z EL T2221.vm T2234.heap b2243 := Safe.new (Nat.le_of_eq g2243.symm)
      have F2243_64 := D2243 (Or.inl (wd64 hw)) (ty := .int) (by decide)
      have F2243_67 := D2243 (Or.inl (wd67 hw)) (ty := (.array (.object "java/lang/Object"))) (by decide)
      have F2243_99 := D2243 (Or.inl (wd99 hw)) (ty := .int) (by decide)
      refine g_dup X2243 hx (hb hby at_122) (q := 123) rfl rfl ?_
      have f2249 : Old Z Z.heap.size T2234.heap := f2240.keep K2234q (allS gz2239 all0)
      have gz2248 : Z.heap.size ≤ b2243 := Nat.le_trans f2249.2.1 (Nat.le_of_eq g2243.symm)
      have f2250 : Old Z Z.heap.size h2243 := f2249.ext E2243
      have f2251 : CHr Z EL s.vm s.heap T2221.vm T2221.heap := f2226.trans R2221
      have f2252 : CHr Z EL s.vm s.heap T2221.vm T2234.heap := f2251.trans (CHr.keep K2234q (sfS f2242 sf0) f2251.1)
      have f2253 : Safe Z EL T2221.vm h2243 b2243 := Safe.ext E2243 f2252.1 sf2244
      refine g_sp X2243 hx hZ2221 hown2221 (wd47 hw) (wd48 hw) (wd49 hw) rfl (by decide) e2243 (Con.back (W := 1) (rm_alinit l Z a0 hw zC SC PC aE SE aD SD aM SM mO MO b2243 h2243 f2250 A2243 F2243_64 gz2248 F2243_99 F2243_67) hZ2221 (wd49 hw) (wd46 hw) (by decide) (by decide)) (by rw [hml]; rfl) (lenOf pd1 rfl) rfl (Nat.le_of_eq rfl) (hb hby at_123) (q := 126) rfl (by decide) (by decide) ?_
      intro v2247 T2247 L2247 X2247 Q2247
      obtain ⟨rfl, Nq2247, K2247q, q2247_0, q2247_1, q2247_2, q2247_3⟩ := Q2247
      have N2247 := Fr.app N2234 Nq2247
      show Go _ _ _ _ (T2247.setTop (mkF m 126 #[.val (.int p0), .val (.int p1), .val (.int p2), .val (.int p3), .val (.int p4), .val (.int p5), .val (.ref r_626), .val ov627, .val ov637, .val .null, .val (.int (2 : Int32)), .val (.ref b2183), .val (.ref b2219), .unset, .unset, .unset, .unset, .unset] [(.ref b2243)]))
      refine sAw X2247 hx (hb hby at_126) (q := 128) rfl rfl (Ls' := #[.val (.int p0), .val (.int p1), .val (.int p2), .val (.int p3), .val (.int p4), .val (.int p5), .val (.ref r_626), .val ov627, .val ov637, .val .null, .val (.int (2 : Int32)), .val (.ref b2183), .val (.ref b2219), .val (.ref b2243), .unset, .unset, .unset, .unset]) rfl ?_
      refine iLw X2247 hx (hb hby at_128) (q := 130) rfl rfl ?_
      refine cI X2247 hx (hb hby at_130) (q := 131) rfl (z := (1 : Int32)) rfl ?_
      refine icN X2247 hx (hb hby at_131) (q := 134) rfl (by decide) ?_
      refine aLw X2247 hx (hb hby at_134) (q := 136) rfl rfl rfl ?_
      refine aLw X2247 hx (hb hby at_136) (q := 138) rfl rfl rfl ?_
      have f2297 : Exa Z T626.heap aD "[Ljava/lang/Object;" := PD1.keep K626q
      have f2298 : Exa Z h627 aD "[Ljava/lang/Object;" := f2297.keep K627q
      have f2299 : Exa Z h637 aD "[Ljava/lang/Object;" := f2298.keep K637q
      have f2300 : Exa Z h2183 aD "[Ljava/lang/Object;" := f2299.ext E2183
      have f2301 : Exa Z T2185.heap aD "[Ljava/lang/Object;" := f2300.keep K2185q
      have f2302 : Exa Z T2192.heap aD "[Ljava/lang/Object;" := f2301.keep K2192q
      have f2303 : Exa Z T2204.heap aD "[Ljava/lang/Object;" := f2302.keep K2204q
      have f2304 : Exa Z h2219 aD "[Ljava/lang/Object;" := f2303.ext E2219
      have f2305 : Exa Z T2221.heap aD "[Ljava/lang/Object;" := f2304.keep K2221q
      have f2306 : Exa Z T2234.heap aD "[Ljava/lang/Object;" := f2305.keep K2234q
      have f2307 : Exa Z h2243 aD "[Ljava/lang/Object;" := f2306.ext E2243
      have f2308 : Exa Z T2247.heap aD "[Ljava/lang/Object;" := f2307.keep K2247q
      have f2309 : Arv Z T626.heap aD dK (.object "java/lang/Object") (0 : Int32) dL .null := PD2.keep K626q nin0
      have f2310 : Arv Z h627 aD dK (.object "java/lang/Object") (0 : Int32) dL .null := f2309.keep K627q nin0
      have f2311 : Arv Z h637 aD dK (.object "java/lang/Object") (0 : Int32) dL .null := f2310.keep K637q nin0
      have f2312 : Arv Z h2183 aD dK (.object "java/lang/Object") (0 : Int32) dL .null := f2311.ext E2183
      have f2313 : Arv Z T2185.heap aD dK (.object "java/lang/Object") (0 : Int32) dL .null := f2312.keep K2185q nin0
      have f2314 : Arv Z T2192.heap aD dK (.object "java/lang/Object") (0 : Int32) dL .null := f2313.keep K2192q nin0
      have le2315 : (h0).size ≤ (T626.heap).size := K626q.1
      have le2316 : (h0).size ≤ (h627).size := (Nat.le_trans le2315 K627q.1)
      have le2317 : (h0).size ≤ (h637).size := (Nat.le_trans le2316 K637q.1)
      have ne2318 : aD ≠ b2183 := (Nat.ne_of_lt (Nat.lt_of_lt_of_le (Nat.lt_of_lt_of_le PD1.lt le2317) (Nat.le_of_eq g2183.symm)))
      have f2319 : Arv Z T2204.heap aD dK (.object "java/lang/Object") (0 : Int32) dL .null := f2314.keep K2204q (ninS ne2318 nin0)
      have f2320 : Arv Z h2219 aD dK (.object "java/lang/Object") (0 : Int32) dL .null := f2319.ext E2219
      have f2321 : Arv Z T2221.heap aD dK (.object "java/lang/Object") (0 : Int32) dL .null := f2320.keep K2221q nin0
      have le2322 : (h0).size ≤ (h2183).size := (Nat.le_trans le2317 E2183.1)
      have le2323 : (h0).size ≤ (T2185.heap).size := (Nat.le_trans le2322 K2185q.1)
      have le2324 : (h0).size ≤ (T2192.heap).size := (Nat.le_trans le2323 K2192q.1)
      have le2325 : (h0).size ≤ (T2204.heap).size := (Nat.le_trans le2324 K2204q.1)
      have ne2326 : aD ≠ b2219 := (Nat.ne_of_lt (Nat.lt_of_lt_of_le (Nat.lt_of_lt_of_le PD1.lt le2325) (Nat.le_of_eq g2219.symm)))
      have f2327 : Arv Z T2234.heap aD dK (.object "java/lang/Object") (0 : Int32) dL .null := f2321.keep K2234q (ninS ne2326 nin0)
      have f2328 : Arv Z h2243 aD dK (.object "java/lang/Object") (0 : Int32) dL .null := f2327.ext E2243
      have le2329 : (h0).size ≤ (h2219).size := (Nat.le_trans le2325 E2219.1)
      have le2330 : (h0).size ≤ (T2221.heap).size := (Nat.le_trans le2329 K2221q.1)
      have le2331 : (h0).size ≤ (T2234.heap).size := (Nat.le_trans le2330 K2234q.1)
      have ne2332 : aD ≠ b2243 := (Nat.ne_of_lt (Nat.lt_of_lt_of_le (Nat.lt_of_lt_of_le PD1.lt le2331) (Nat.le_of_eq g2243.symm)))
      have f2333 : Arv Z T2247.heap aD dK (.object "java/lang/Object") (0 : Int32) dL .null := f2328.keep K2247q (ninS ne2332 nin0)
      have f2334 : Exa Z h2219 b2183 "com/example/quaymark/quaymark/Review$LeftOut" := q2204_0.ext E2219
      have f2335 : Exa Z T2221.heap b2183 "com/example/quaymark/quaymark/Review$LeftOut" := f2334.keep K2221q
      have f2336 : Exa Z T2234.heap b2183 "com/example/quaymark/quaymark/Review$LeftOut" := f2335.keep K2234q
      have f2337 : Exa Z h2243 b2183 "com/example/quaymark/quaymark/Review$LeftOut" := f2336.ext E2243
      have f2338 : Exa Z T2247.heap b2183 "com/example/quaymark/quaymark/Review$LeftOut" := f2337.keep K2247q
      have f2339 : Old Z Z.heap.size T2247.heap := f2250.keep K2247q (allS gz2248 all0)
      have f2340 : CHr Z EL s.vm s.heap T2221.vm h2243 := f2252.trans (CHr.ext E2243 f2252.1)
      have f2341 : Safe Z EL T2221.vm T2247.heap b2243 := Safe.keep K2247q (sfS f2253 sf0) f2340.1 f2253
      refine g_if X2247 hx hZ2221 hown2221 (wd177 hw) (wd178 hw) (wd179 hw) rfl (wd180 hw) (wd181 hw) (wd182 hw) (wd183 hw) (wd184 hw) (by decide) q2247_0 rfl (Con.back (W := 0) (rm_add1a l Z a0 hw zC SC PC aE SE aD SD aM SM mO MO b2243 b2183 dK dL T2247.heap f2339 q2247_0 q2247_2 q2247_3 gz2248 f2308 f2333 f2338 q2247_1) hZ2221 (wd185 hw) (wd46 hw) (by decide) (by decide)) (by rw [hml]; rfl) (lenOf pd20 rfl) rfl (Nat.le_of_eq rfl) (hb hby at_138) (q := 143) rfl (by decide) (by decide) ?_
      intro v2296 T2296 L2296 X2296 Q2296
      obtain ⟨r_2296, kr_2296, rfl, Nq2296, K2296q, q2296_0, q2296_1, q2296_2, q2296_3, q2296_4, q2296_5, q2296_6, q2296_7⟩ := Q2296
      have N2296 := Fr.app N2247 Nq2296
      show Go _ _ _ _ (T2296.setTop (mkF m 143 #[.val (.int p0), .val (.int p1), .val (.int p2), .val (.int p3), .val (.int p4), .val (.int p5), .val (.ref r_626), .val ov627, .val ov637, .val .null, .val (.int (2 : Int32)), .val (.ref b2183), .val (.ref b2219), .val (.ref b2243), .unset, .unset, .unset, .unset] [(.int (1 : Int32))]))
      refine g_pop X2296 hx (hb hby at_143) (q := 144) rfl rfl ?_
      refine iLw X2296 hx (hb hby at_144) (q := 146) rfl rfl ?_
      refine cI X2296 hx (hb hby at_146) (q := 147) rfl (z := (2 : Int32)) rfl ?_
      refine icN X2296 hx (hb hby at_147) (q := 150) rfl (by decide) ?_
      refine aLw X2296 hx (hb hby at_150) (q := 152) rfl rfl rfl ?_
      refine aLw X2296 hx (hb hby at_152) (q := 154) rfl rfl rfl ?_
      have gz2347 : Z.heap.size ≤ r_2296 := Nat.le_trans f2339.2.1 q2296_3
      have f2348 : Exa Z h2243 b2219 "com/example/quaymark/quaymark/Review$LeftOut" := q2234_0.ext E2243
      have f2349 : Exa Z T2247.heap b2219 "com/example/quaymark/quaymark/Review$LeftOut" := f2348.keep K2247q
      have f2350 : Exa Z T2296.heap b2219 "com/example/quaymark/quaymark/Review$LeftOut" := f2349.keep K2296q
      have f2351 : Old Z Z.heap.size T2296.heap := f2339.keep K2296q (allS gz2248 all0)
      have f2352 : CHr Z EL s.vm s.heap T2221.vm T2247.heap := f2340.trans (CHr.keep K2247q (sfS f2253 sf0) f2340.1)
      have f2353 : Safe Z EL T2221.vm T2296.heap b2243 := Safe.keep K2296q (sfS f2341 sf0) f2352.1 f2341
      refine g_if X2296 hx hZ2221 hown2221 (wd177 hw) (wd178 hw) (wd179 hw) rfl (wd180 hw) (wd181 hw) (wd182 hw) (wd183 hw) (wd184 hw) (by decide) q2296_0 rfl (Con.back (W := 0) (rm_add1b l Z a0 hw zC SC PC aE SE aD SD aM SM mO MO b2243 b2183 b2219 r_2296 kr_2296 T2296.heap f2351 q2296_0 q2296_1 q2296_2 gz2248 q2296_4 q2296_5 q2296_6 gz2347 f2350 q2296_7) hZ2221 (wd185 hw) (wd46 hw) (by decide) (by decide)) (by rw [hml]; rfl) (lenOf pd20 rfl) rfl (Nat.le_of_eq rfl) (hb hby at_154) (q := 159) rfl (by decide) (by decide) ?_
      intro v2346 T2346 L2346 X2346 Q2346
      obtain ⟨rfl, Nq2346, K2346q, q2346_0, q2346_1, q2346_2, q2346_3, q2346_4⟩ := Q2346
      have N2346 := Fr.app N2296 Nq2346
      show Go _ _ _ _ (T2346.setTop (mkF m 159 #[.val (.int p0), .val (.int p1), .val (.int p2), .val (.int p3), .val (.int p4), .val (.int p5), .val (.ref r_626), .val ov627, .val ov637, .val .null, .val (.int (2 : Int32)), .val (.ref b2183), .val (.ref b2219), .val (.ref b2243), .unset, .unset, .unset, .unset] [(.int (1 : Int32))]))
      refine g_pop X2346 hx (hb hby at_159) (q := 160) rfl rfl ?_
      refine g_new X2346 hx hZ2221 hown2221 (wd68 hw) (wd69 hw) (wd70 hw) (by decide) (by decide) rfl (hb hby at_160) (q := 163) rfl ?_
      intro T2354 h2354 b2354 g2354 X2354 e2354 E2354 A2354 D2354
      have sf2355 : Safe Z EL T2221.vm T2346.heap b2354 := Safe.new (Nat.le_of_eq g2354.symm)
      have F2354_105 := D2354 (Or.inr (wd105 hw)) (ty := (.object "java/lang/String")) (by decide)
      have F2354_107 := D2354 (Or.inr (wd107 hw)) (ty := (.object "java/util/List")) (by decide)
      have F2354_109 := D2354 (Or.inr (wd109 hw)) (ty := (.object "java/lang/String")) (by decide)
      have F2354_111 := D2354 (Or.inr (wd111 hw)) (ty := (.object "com/example/quaymark/quaymark/Review$Withdrawal")) (by decide)
      refine g_dup X2354 hx (hb hby at_163) (q := 164) rfl rfl ?_
      refine aLw X2354 hx (hb hby at_164) (q := 166) rfl rfl rfl ?_
      refine aLw X2354 hx (hb hby at_166) (q := 168) rfl rfl rfl ?_
      refine aLw X2354 hx (hb hby at_168) (q := 170) rfl rfl r627 ?_
      refine aLw X2354 hx (hb hby at_170) (q := 172) rfl rfl r637 ?_
      have f2378 : Old Z Z.heap.size T2346.heap := f2351.keep K2346q (allS gz2248 (allS gz2347 all0))
      have gz2377 : Z.heap.size ≤ b2354 := Nat.le_trans f2378.2.1 (Nat.le_of_eq g2354.symm)
      have f2379 : Exa Z h2354 b2243 "java/util/ArrayList" := q2346_0.ext E2354
      have f2380 : Fld Z h2354 b2243 "java/util/ArrayList" "size" "I" (.int (2 : Int32)) := q2346_1.ext E2354
      have f2381 : Fld Z h2354 b2243 "java/util/ArrayList" "elementData" "[Ljava/lang/Object;" (.ref r_2296) := q2346_2.ext E2354
      have f2382 : Arv Z h2354 r_2296 kr_2296 (.object "java/lang/Object") (10 : Int32) [(.ref b2183), (.ref b2219), .null, .null, .null, .null, .null, .null, .null, .null] .null := q2346_3.ext E2354
      have f2383 : Exa Z h2354 r_2296 "[Ljava/lang/Object;" := q2346_4.ext E2354
      have f2384 : Exa Z T2296.heap b2183 "com/example/quaymark/quaymark/Review$LeftOut" := f2338.keep K2296q
      have f2385 : Exa Z T2346.heap b2183 "com/example/quaymark/quaymark/Review$LeftOut" := f2384.keep K2346q
      have f2386 : Exa Z h2354 b2183 "com/example/quaymark/quaymark/Review$LeftOut" := f2385.ext E2354
      have f2387 : Exa Z T2346.heap b2219 "com/example/quaymark/quaymark/Review$LeftOut" := f2350.keep K2346q
      have f2388 : Exa Z h2354 b2219 "com/example/quaymark/quaymark/Review$LeftOut" := f2387.ext E2354
      have f2389 : Old Z Z.heap.size h2354 := f2378.ext E2354
      have f2390 : CHr Z EL s.vm s.heap T2221.vm T2296.heap := f2352.trans (CHr.keep K2296q (sfS f2341 sf0) f2352.1)
      have f2391 : CHr Z EL s.vm s.heap T2221.vm T2346.heap := f2390.trans (CHr.keep K2346q (sfS f2353 (sfS (Safe.exa hZ2221.alike q2296_5 (by decide) (by decide)) sf0)) f2390.1)
      have f2392 : Safe Z EL T2221.vm h2354 b2354 := Safe.ext E2354 f2391.1 sf2355
      refine g_sp X2354 hx hZ2221 hown2221 (wd71 hw) (wd72 hw) (wd73 hw) rfl (by decide) e2354 (Con.back (W := 1) (rm_rv2 l Z a0 hw zC SC PC aE SE aD SD aM SM mO MO b2354 r_626 ov627 ov637 b2243 r_2296 kr_2296 b2183 b2219 h2354 f2389 A2354 F2354_105 F2354_107 F2354_109 F2354_111 gz2377 r627 r637 f2379 f2380 f2381 f2382 f2383 f2386 f2388) hZ2221 (wd73 hw) (wd70 hw) (by decide) (by decide)) (by rw [hml]; rfl) (lenOf pd21 rfl) rfl (Nat.le_of_eq rfl) (hb hby at_172) (q := 175) rfl (by decide) (by decide) ?_
      intro v2376 T2376 L2376 X2376 Q2376
      obtain ⟨q_2376, rfl, Nq2376, K2376q, q2376_0, q2376_1, q2376_2, q2376_3, q2376_4, q2376_5, q2376_6, q2376_7, q2376_8⟩ := Q2376
      have N2376 := Fr.app N2346 Nq2376
      show Go _ _ _ _ (T2376.setTop (mkF m 175 #[.val (.int p0), .val (.int p1), .val (.int p2), .val (.int p3), .val (.int p4), .val (.int p5), .val (.ref r_626), .val ov627, .val ov637, .val .null, .val (.int (2 : Int32)), .val (.ref b2183), .val (.ref b2219), .val (.ref b2243), .unset, .unset, .unset, .unset] [(.ref b2354)]))
      refine sAw X2376 hx (hb hby at_175) (q := 177) rfl rfl (Ls' := #[.val (.int p0), .val (.int p1), .val (.int p2), .val (.int p3), .val (.int p4), .val (.int p5), .val (.ref r_626), .val ov627, .val ov637, .val .null, .val (.int (2 : Int32)), .val (.ref b2183), .val (.ref b2219), .val (.ref b2243), .val (.ref b2354), .unset, .unset, .unset]) rfl ?_
      refine aLw X2376 hx (hb hby at_177) (q := 179) rfl rfl rfl ?_
      refine aLw X2376 hx (hb hby at_179) (q := 181) rfl rfl rfl ?_
      have f2394 : Old Z Z.heap.size T2376.heap := f2389.keep K2376q (allS gz2377 all0)
      refine g_vi X2376 hx hZ2221 hown2221 (wd112 hw) (wd113 hw) (notFace_of_selects (args := #[]) (mvT hZ2221 (wd115 hw))) (wd115 hw) (wd114 hw) (by decide) q2376_0 rfl (Con.back (W := 0) (rm_sgnL l Z a0 hw zC SC PC aE SE aD SD aM SM mO MO b2354 r_626 .null q_2376 T2376.heap f2394 q2376_1 q2376_2 q2376_6 rfl) hZ2221 (wd116 hw) (wd70 hw) (by decide) (by decide)) (by rw [hml]; rfl) (lenOf pd25 rfl) rfl (Nat.le_of_eq rfl) (hb hby at_181) (q := 184) rfl (by decide) (by decide) ?_
      intro v2393 T2393 L2393 X2393 Q2393
      obtain ⟨r_2393, rfl, Nq2393, K2393q, q2393_0, q2393_1, q2393_2, q2393_3, q2393_4, q2393_5⟩ := Q2393
      have N2393 := Fr.app N2376 Nq2393
      show Go _ _ _ _ (T2393.setTop (mkF m 184 #[.val (.int p0), .val (.int p1), .val (.int p2), .val (.int p3), .val (.int p4), .val (.int p5), .val (.ref r_626), .val ov627, .val ov637, .val .null, .val (.int (2 : Int32)), .val (.ref b2183), .val (.ref b2219), .val (.ref b2243), .val (.ref b2354), .unset, .unset, .unset] [(.ref r_2393)]))
      refine sAw X2393 hx (hb hby at_184) (q := 186) rfl rfl (Ls' := #[.val (.int p0), .val (.int p1), .val (.int p2), .val (.int p3), .val (.int p4), .val (.int p5), .val (.ref r_626), .val ov627, .val ov637, .val .null, .val (.int (2 : Int32)), .val (.ref b2183), .val (.ref b2219), .val (.ref b2243), .val (.ref b2354), .val (.ref r_2393), .unset, .unset]) rfl ?_
      refine aLw X2393 hx (hb hby at_186) (q := 188) rfl rfl rfl ?_
      have f2396 : Old Z Z.heap.size T2393.heap := f2394.keep K2393q all0
      refine g_vi X2393 hx hZ2221 hown2221 (wd127 hw) (wd128 hw) (notFace_of_selects (args := #[]) (mvT hZ2221 (wd130 hw))) (wd130 hw) (wd129 hw) (by decide) q2393_1 rfl (Con.back (W := 0) (rm_get_leftOut l Z a0 hw zC SC PC aE SE aD SD aM SM mO MO r_2393 q_2376 T2393.heap f2396 q2393_3) hZ2221 (wd131 hw) (wd70 hw) (by decide) (by decide)) (by rw [hml]; rfl) (lenOf pd14 rfl) rfl (Nat.le_of_eq rfl) (hb hby at_188) (q := 191) rfl (by decide) (by decide) ?_
      intro v2395 T2395 L2395 X2395 Q2395
      obtain ⟨rfl, Nq2395, e2395⟩ := Q2395
      have N2395 := Fr.app N2393 Nq2395
      show Go _ _ _ _ (T2395.setTop (mkF m 191 #[.val (.int p0), .val (.int p1), .val (.int p2), .val (.int p3), .val (.int p4), .val (.int p5), .val (.ref r_626), .val ov627, .val ov637, .val .null, .val (.int (2 : Int32)), .val (.ref b2183), .val (.ref b2219), .val (.ref b2243), .val (.ref b2354), .val (.ref r_2393), .unset, .unset] [(.ref q_2376)]))
      refine sAw X2395 hx (hb hby at_191) (q := 193) rfl rfl (Ls' := #[.val (.int p0), .val (.int p1), .val (.int p2), .val (.int p3), .val (.int p4), .val (.int p5), .val (.ref r_626), .val ov627, .val ov637, .val .null, .val (.int (2 : Int32)), .val (.ref b2183), .val (.ref b2219), .val (.ref b2243), .val (.ref b2354), .val (.ref r_2393), .val (.ref q_2376), .unset]) rfl ?_
      refine aLw X2395 hx (hb hby at_193) (q := 195) rfl rfl rfl ?_
      have f2418 : Fld Z T2393.heap q_2376 "java/util/ImmutableCollections$List12" "e1" "Ljava/lang/Object;" (.ref b2219) := q2376_8.keep K2393q nin0
      have f2419 : Exa Z T2376.heap b2219 "com/example/quaymark/quaymark/Review$LeftOut" := f2388.keep K2376q
      have f2420 : Exa Z T2393.heap b2219 "com/example/quaymark/quaymark/Review$LeftOut" := f2419.keep K2393q
      have f2421 : Exa Z T626.heap aM "java/lang/Object" := PM1.keep K626q
      have f2422 : Exa Z h627 aM "java/lang/Object" := f2421.keep K627q
      have f2423 : Exa Z h637 aM "java/lang/Object" := f2422.keep K637q
      have f2424 : Exa Z h2183 aM "java/lang/Object" := f2423.ext E2183
      have f2425 : Exa Z T2185.heap aM "java/lang/Object" := f2424.keep K2185q
      have f2426 : Exa Z T2192.heap aM "java/lang/Object" := f2425.keep K2192q
      have f2427 : Exa Z T2204.heap aM "java/lang/Object" := f2426.keep K2204q
      have f2428 : Exa Z h2219 aM "java/lang/Object" := f2427.ext E2219
      have f2429 : Exa Z T2221.heap aM "java/lang/Object" := f2428.keep K2221q
      have f2430 : Exa Z T2234.heap aM "java/lang/Object" := f2429.keep K2234q
      have f2431 : Exa Z h2243 aM "java/lang/Object" := f2430.ext E2243
      have f2432 : Exa Z T2247.heap aM "java/lang/Object" := f2431.keep K2247q
      have f2433 : Exa Z T2296.heap aM "java/lang/Object" := f2432.keep K2296q
      have f2434 : Exa Z T2346.heap aM "java/lang/Object" := f2433.keep K2346q
      have f2435 : Exa Z h2354 aM "java/lang/Object" := f2434.ext E2354
      have f2436 : Exa Z T2376.heap aM "java/lang/Object" := f2435.keep K2376q
      have f2437 : Exa Z T2393.heap aM "java/lang/Object" := f2436.keep K2393q
      have f2438 : Exa Z T2393.heap q_2376 "java/util/ImmutableCollections$List12" := q2376_6.keep K2393q
      refine g_if X2395 hx hZ2221 hown2221 (wd132 hw) (wd133 hw) (wd134 hw) rfl (wd274 hw) (wd275 hw) (wd276 hw) (wd277 hw) (wd273 hw) (by decide) f2438 e2395 (Con.back (W := 0) (rm_size2 l Z a0 hw zC SC PC aE SE aD SD aM SM mO MO q_2376 b2219 T2393.heap f2396 f2418 f2420 f2437) hZ2221 (wd278 hw) (wd245 hw) (by decide) (by decide)) (by rw [hml]; rfl) (lenOf pd26 rfl) rfl (Nat.le_of_eq rfl) (hb hby at_195) (q := 200) rfl (by decide) (by decide) ?_
      intro v2417 T2417 L2417 X2417 Q2417
      obtain ⟨rfl, Nq2417, e2417⟩ := Q2417
      have N2417 := Fr.app N2395 Nq2417
      show Go _ _ _ _ (T2417.setTop (mkF m 200 #[.val (.int p0), .val (.int p1), .val (.int p2), .val (.int p3), .val (.int p4), .val (.int p5), .val (.ref r_626), .val ov627, .val ov637, .val .null, .val (.int (2 : Int32)), .val (.ref b2183), .val (.ref b2219), .val (.ref b2243), .val (.ref b2354), .val (.ref r_2393), .val (.ref q_2376), .unset] [(.int (2 : Int32))]))
      refine iLw X2417 hx (hb hby at_200) (q := 202) rfl rfl ?_
      refine icN X2417 hx (hb hby at_202) (q := 205) rfl (by decide) ?_
      refine iLw X2417 hx (hb hby at_205) (q := 207) rfl rfl ?_
      refine cI X2417 hx (hb hby at_207) (q := 208) rfl (z := (1 : Int32)) rfl ?_
      refine icN X2417 hx (hb hby at_208) (q := 211) rfl (by decide) ?_
      refine aLw X2417 hx (hb hby at_211) (q := 213) rfl rfl rfl ?_
      refine cI X2417 hx (hb hby at_213) (q := 214) rfl (z := (0 : Int32)) rfl ?_
      have f2441 : Fld Z T2393.heap q_2376 "java/util/ImmutableCollections$List12" "e0" "Ljava/lang/Object;" (.ref b2183) := q2376_7.keep K2393q nin0
      refine g_if X2417 hx hZ2221 hown2221 (wd279 hw) (wd280 hw) (wd281 hw) rfl (wd282 hw) (wd283 hw) (wd284 hw) (wd285 hw) (wd273 hw) (by decide) f2438 e2417 (Con.back (W := 0) (rm_get0 l Z a0 hw zC SC PC aE SE aD SD aM SM mO MO q_2376 b2183 T2393.heap f2396 f2441) hZ2221 (wd286 hw) (wd245 hw) (by decide) (by decide)) (by rw [hml]; rfl) (lenOf pd30 rfl) rfl (Nat.le_of_eq rfl) (hb hby at_214) (q := 219) rfl (by decide) (by decide) ?_
      intro v2440 T2440 L2440 X2440 Q2440
      obtain ⟨rfl, Nq2440, e2440⟩ := Q2440
      have N2440 := Fr.app N2417 Nq2440
      show Go _ _ _ _ (T2440.setTop (mkF m 219 #[.val (.int p0), .val (.int p1), .val (.int p2), .val (.int p3), .val (.int p4), .val (.int p5), .val (.ref r_626), .val ov627, .val ov637, .val .null, .val (.int (2 : Int32)), .val (.ref b2183), .val (.ref b2219), .val (.ref b2243), .val (.ref b2354), .val (.ref r_2393), .val (.ref q_2376), .unset] [(.ref b2183)]))
      refine aLw X2440 hx (hb hby at_219) (q := 221) rfl rfl rfl ?_
      refine g_acmp X2440 hx (hb hby at_221) (q := 224) rfl rfl (same := true) (decide_eq_true rfl) (by decide) (by decide) ?_
      refine iLw X2440 hx (hb hby at_224) (q := 226) rfl rfl ?_
      refine cI X2440 hx (hb hby at_226) (q := 227) rfl (z := (2 : Int32)) rfl ?_
      refine icN X2440 hx (hb hby at_227) (q := 230) rfl (by decide) ?_
      refine aLw X2440 hx (hb hby at_230) (q := 232) rfl rfl rfl ?_
      refine cI X2440 hx (hb hby at_232) (q := 233) rfl (z := (1 : Int32)) rfl ?_
      refine g_if X2440 hx hZ2221 hown2221 (wd279 hw) (wd280 hw) (wd281 hw) rfl (wd282 hw) (wd283 hw) (wd284 hw) (wd285 hw) (wd273 hw) (by decide) f2438 e2440 (Con.back (W := 0) (rm_get1 l Z a0 hw zC SC PC aE SE aD SD aM SM mO MO q_2376 b2219 T2393.heap f2396 f2418 f2420 f2437) hZ2221 (wd286 hw) (wd245 hw) (by decide) (by decide)) (by rw [hml]; rfl) (lenOf pd30 rfl) rfl (Nat.le_of_eq rfl) (hb hby at_233) (q := 238) rfl (by decide) (by decide) ?_
      intro v2442 T2442 L2442 X2442 Q2442
      obtain ⟨rfl, Nq2442, e2442⟩ := Q2442
      have N2442 := Fr.app N2440 Nq2442
      show Go _ _ _ _ (T2442.setTop (mkF m 238 #[.val (.int p0), .val (.int p1), .val (.int p2), .val (.int p3), .val (.int p4), .val (.int p5), .val (.ref r_626), .val ov627, .val ov637, .val .null, .val (.int (2 : Int32)), .val (.ref b2183), .val (.ref b2219), .val (.ref b2243), .val (.ref b2354), .val (.ref r_2393), .val (.ref q_2376), .unset] [(.ref b2219)]))
      refine aLw X2442 hx (hb hby at_238) (q := 240) rfl rfl rfl ?_
      refine g_acmp X2442 hx (hb hby at_240) (q := 243) rfl rfl (same := true) (decide_eq_true rfl) (by decide) (by decide) ?_
      refine cI X2442 hx (hb hby at_243) (q := 244) rfl (z := (1 : Int32)) rfl ?_
      refine g_goto X2442 hx (hb hby at_244) (q := 248) (by decide) (by decide) ?_
      refine sIw X2442 hx (hb hby at_248) (q := 250) rfl (Ls' := #[.val (.int p0), .val (.int p1), .val (.int p2), .val (.int p3), .val (.int p4), .val (.int p5), .val (.ref r_626), .val ov627, .val ov637, .val .null, .val (.int (2 : Int32)), .val (.ref b2183), .val (.ref b2219), .val (.ref b2243), .val (.ref b2354), .val (.ref r_2393), .val (.ref q_2376), .val (.int (1 : Int32))]) rfl ?_
      refine iLw X2442 hx (hb hby at_250) (q := 252) rfl rfl ?_
      refine ifN X2442 hx (hb hby at_252) (q := 255) rfl (by decide) ?_
      refine aLw X2442 hx (hb hby at_255) (q := 257) rfl rfl rfl ?_
      refine g_vi X2442 hx hZ2221 hown2221 (wd143 hw) (wd144 hw) (notFace_of_selects (args := #[]) (mvT hZ2221 (wd146 hw))) (wd146 hw) (wd145 hw) (by decide) q2393_1 e2442 (Con.back (W := 0) (rm_get_submittedBy l Z a0 hw zC SC PC aE SE aD SD aM SM mO MO r_2393 r_626 T2393.heap f2396 q2393_2) hZ2221 (wd147 hw) (wd70 hw) (by decide) (by decide)) (by rw [hml]; rfl) (lenOf pd27 rfl) rfl (Nat.le_of_eq rfl) (hb hby at_257) (q := 260) rfl (by decide) (by decide) ?_
      intro v2443 T2443 L2443 X2443 Q2443
      obtain ⟨rfl, Nq2443, e2443⟩ := Q2443
      have N2443 := Fr.app N2442 Nq2443
      show Go _ _ _ _ (T2443.setTop (mkF m 260 #[.val (.int p0), .val (.int p1), .val (.int p2), .val (.int p3), .val (.int p4), .val (.int p5), .val (.ref r_626), .val ov627, .val ov637, .val .null, .val (.int (2 : Int32)), .val (.ref b2183), .val (.ref b2219), .val (.ref b2243), .val (.ref b2354), .val (.ref r_2393), .val (.ref q_2376), .val (.int (1 : Int32))] [(.ref r_626)]))
      refine aLw X2443 hx (hb hby at_260) (q := 262) rfl rfl rfl ?_
      have f2461 : Exa Z h627 r_626 "java/lang/String" := q626_1.keep K627q
      have f2462 : Exa Z h637 r_626 "java/lang/String" := f2461.keep K637q
      have f2463 : Exa Z h2183 r_626 "java/lang/String" := f2462.ext E2183
      have f2464 : Exa Z T2185.heap r_626 "java/lang/String" := f2463.keep K2185q
      have f2465 : Exa Z T2192.heap r_626 "java/lang/String" := f2464.keep K2192q
      have f2466 : Exa Z T2204.heap r_626 "java/lang/String" := f2465.keep K2204q
      have f2467 : Exa Z h2219 r_626 "java/lang/String" := f2466.ext E2219
      have f2468 : Exa Z T2221.heap r_626 "java/lang/String" := f2467.keep K2221q
      have f2469 : Exa Z T2234.heap r_626 "java/lang/String" := f2468.keep K2234q
      have f2470 : Exa Z h2243 r_626 "java/lang/String" := f2469.ext E2243
      have f2471 : Exa Z T2247.heap r_626 "java/lang/String" := f2470.keep K2247q
      have f2472 : Exa Z T2296.heap r_626 "java/lang/String" := f2471.keep K2296q
      have f2473 : Exa Z T2346.heap r_626 "java/lang/String" := f2472.keep K2346q
      have f2474 : Exa Z h2354 r_626 "java/lang/String" := f2473.ext E2354
      have f2475 : Exa Z T2376.heap r_626 "java/lang/String" := f2474.keep K2376q
      have f2476 : Exa Z T2393.heap r_626 "java/lang/String" := f2475.keep K2393q
      refine g_st X2443 hx hZ2221 hown2221 (wd148 hw) (wd149 hw) (wd2 hw) (wd150 hw) (by decide) e2443 (Con.back (W := 0) (rm_samer l Z a0 hw zC SC PC aE SE aD SD aM SM mO MO r_626 T2393.heap f2396 f2476) hZ2221 (wd150 hw) (wd2 hw) (by decide) (by decide)) (by rw [hml]; rfl) (lenOf pd28 rfl) rfl (Nat.le_of_eq rfl) (hb hby at_262) (q := 265) rfl (by decide) (by decide) ?_
      intro v2460 T2460 L2460 X2460 Q2460
      obtain ⟨rfl, Nq2460, e2460⟩ := Q2460
      have N2460 := Fr.app N2443 Nq2460
      show Go _ _ _ _ (T2460.setTop (mkF m 265 #[.val (.int p0), .val (.int p1), .val (.int p2), .val (.int p3), .val (.int p4), .val (.int p5), .val (.ref r_626), .val ov627, .val ov637, .val .null, .val (.int (2 : Int32)), .val (.ref b2183), .val (.ref b2219), .val (.ref b2243), .val (.ref b2354), .val (.ref r_2393), .val (.ref q_2376), .val (.int (1 : Int32))] [(.int (1 : Int32))]))
      refine ifN X2460 hx (hb hby at_265) (q := 268) rfl (by decide) ?_
      refine aLw X2460 hx (hb hby at_268) (q := 270) rfl rfl rfl ?_
      refine g_vi X2460 hx hZ2221 hown2221 (wd156 hw) (wd157 hw) (notFace_of_selects (args := #[]) (mvT hZ2221 (wd159 hw))) (wd159 hw) (wd158 hw) (by decide) q2393_1 e2460 (Con.back (W := 0) (rm_get_signedOffBy l Z a0 hw zC SC PC aE SE aD SD aM SM mO MO r_2393 .null T2393.heap f2396 q2393_4 rfl) hZ2221 (wd160 hw) (wd70 hw) (by decide) (by decide)) (by rw [hml]; rfl) (lenOf pd27 rfl) rfl (Nat.le_of_eq rfl) (hb hby at_270) (q := 273) rfl (by decide) (by decide) ?_
      intro v2477 T2477 L2477 X2477 Q2477
      obtain ⟨rfl, Nq2477, e2477⟩ := Q2477
      have N2477 := Fr.app N2460 Nq2477
      show Go _ _ _ _ (T2477.setTop (mkF m 273 #[.val (.int p0), .val (.int p1), .val (.int p2), .val (.int p3), .val (.int p4), .val (.int p5), .val (.ref r_626), .val ov627, .val ov637, .val .null, .val (.int (2 : Int32)), .val (.ref b2183), .val (.ref b2219), .val (.ref b2243), .val (.ref b2354), .val (.ref r_2393), .val (.ref q_2376), .val (.int (1 : Int32))] [.null]))
      refine aLw X2477 hx (hb hby at_273) (q := 275) rfl rfl rfl ?_
      refine g_st X2477 hx hZ2221 hown2221 (wd148 hw) (wd149 hw) (wd2 hw) (wd150 hw) (by decide) e2477 (Con.back (W := 0) (rm_samen l Z a0 hw zC SC PC aE SE aD SD aM SM mO MO  T2393.heap f2396 ) hZ2221 (wd150 hw) (wd2 hw) (by decide) (by decide)) (by rw [hml]; rfl) (lenOf pd28 rfl) rfl (Nat.le_of_eq rfl) (hb hby at_275) (q := 278) rfl (by decide) (by decide) ?_
      intro v2478 T2478 L2478 X2478 Q2478
      obtain ⟨rfl, Nq2478, e2478⟩ := Q2478
      have N2478 := Fr.app N2477 Nq2478
      show Go _ _ _ _ (T2478.setTop (mkF m 278 #[.val (.int p0), .val (.int p1), .val (.int p2), .val (.int p3), .val (.int p4), .val (.int p5), .val (.ref r_626), .val ov627, .val ov637, .val .null, .val (.int (2 : Int32)), .val (.ref b2183), .val (.ref b2219), .val (.ref b2243), .val (.ref b2354), .val (.ref r_2393), .val (.ref q_2376), .val (.int (1 : Int32))] [(.int (1 : Int32))]))
      refine ifN X2478 hx (hb hby at_278) (q := 281) rfl (by decide) ?_
      refine aLw X2478 hx (hb hby at_281) (q := 283) rfl rfl rfl ?_
      refine g_vi X2478 hx hZ2221 hown2221 (wd161 hw) (wd162 hw) (notFace_of_selects (args := #[]) (mvT hZ2221 (wd164 hw))) (wd164 hw) (wd163 hw) (by decide) q2393_1 e2478 (Con.back (W := 0) (rm_get_withdrawn l Z a0 hw zC SC PC aE SE aD SD aM SM mO MO r_2393 T2393.heap f2396 q2393_5) hZ2221 (wd165 hw) (wd70 hw) (by decide) (by decide)) (by rw [hml]; rfl) (lenOf pd29 rfl) rfl (Nat.le_of_eq rfl) (hb hby at_283) (q := 286) rfl (by decide) (by decide) ?_
      intro v2479 T2479 L2479 X2479 Q2479
      obtain ⟨rfl, Nq2479, e2479⟩ := Q2479
      have N2479 := Fr.app N2478 Nq2479
      show Go _ _ _ _ (T2479.setTop (mkF m 286 #[.val (.int p0), .val (.int p1), .val (.int p2), .val (.int p3), .val (.int p4), .val (.int p5), .val (.ref r_626), .val ov627, .val ov637, .val .null, .val (.int (2 : Int32)), .val (.ref b2183), .val (.ref b2219), .val (.ref b2243), .val (.ref b2354), .val (.ref r_2393), .val (.ref q_2376), .val (.int (1 : Int32))] [.null]))
      refine nnN X2479 hx (hb hby at_286) (q := 289) rfl ?_
      refine cI X2479 hx (hb hby at_289) (q := 290) rfl (z := (1 : Int32)) rfl ?_
      refine g_goto X2479 hx (hb hby at_290) (q := 294) (by decide) (by decide) ?_
      have le2480 : (T2221.heap).size ≤ (T2234.heap).size := K2234q.1
      have le2481 : (T2221.heap).size ≤ (h2243).size := (Nat.le_trans le2480 E2243.1)
      have le2482 : (T2221.heap).size ≤ (T2247.heap).size := (Nat.le_trans le2481 K2247q.1)
      have le2483 : (T2221.heap).size ≤ (T2296.heap).size := (Nat.le_trans le2482 K2296q.1)
      have le2484 : (T2221.heap).size ≤ (T2346.heap).size := (Nat.le_trans le2483 K2346q.1)
      have le2485 : (T2221.heap).size ≤ (h2354).size := (Nat.le_trans le2484 E2354.1)
      have le2486 : (T2221.heap).size ≤ (T2376.heap).size := (Nat.le_trans le2485 K2376q.1)
      have le2487 : (T2221.heap).size ≤ (T2393.heap).size := (Nat.le_trans le2486 K2393q.1)
      have f2488 : CHr Z EL s.vm s.heap T2221.vm h2354 := f2391.trans (CHr.ext E2354 f2391.1)
      have f2489 : CHr Z EL s.vm s.heap T2221.vm T2376.heap := f2488.trans (CHr.keep K2376q (sfS f2392 sf0) f2488.1)
      have f2490 : CHr Z EL s.vm s.heap T2221.vm T2393.heap := f2489.trans (CHr.keep K2393q sf0 f2489.1)
      refine endC X2479 hlk hS2221 (by rw [e2479]; exact (Nat.le_trans (Nat.le_refl _) le2487)) hZ2221 (own_EW hw) (by rw [e2479]; exact f2490) (fun h => by rw [hret] at h; cases h) (lastN X2479 hx (t := .boolean) (z' := (1 : Int32)) hret (by simp) (by decide) (hb hby at_294)) ?_ (by decide) (by decide)
      rw [e2479]
      exact ⟨rfl, N2479, trivial⟩
theorem own_len0 {s : State} {args : Array Value} {t : Term} {a : Addr} {c : Cell} {ty : FieldType} (hf : Fit s) (ev : t.eval args s none [] s = some (.ref a)) (A : Arr s s.heap a c ty) (h : (Jvm.Cond.eq (Term.length t) (Term.int (0 : Int32))).value args s none s [] = some true) : Arv s s.heap a c.cls ty (0 : Int32) [] .null := by
  have hA := A.fin (Vm.Alike.refl _)
  obtain ⟨xv, yv, e1, e2, -, -⟩ := cmp_v (Or.inl h)
  have hlt : c.slots.size < 2 ^ 31 := by
    by_cases hq : c.slots.size < 2 ^ 31
    · exact hq
    · simp [Term.eval, ev, hA, hq] at e1
  have e3 := len_f ev hA hlt
  have h0 := gotT (Cond.eq_ints e3 (Term.int_eval (0))) h
  exact Arv.start hf A hlt h0 (by decide) (by decide) trivial
theorem own_fld0 {s : State} {args : Array Value} {t : Term} {a : Addr} {C n d : String} {k : Int32} (ev : t.eval args s none [] s = some (.ref a)) (h : (Jvm.Cond.eq (Term.field t C n d) (Term.int k)).value args s none s [] = some true) : Fld s s.heap a C n d (.int k) := by
  obtain ⟨xv, yv, e1, e2, k1, k2⟩ := cmp_v (Or.inl h)
  cases (Term.int_eval k).symm.trans e2
  obtain ⟨z, rfl⟩ := k2
  have h0 := gotT (Cond.eq_ints e1 (Term.int_eval k)) h
  subst h0
  exact Fld.start ((fld_at ev).symm.trans e1)
theorem own_sta {s : State} {args : Array Value} {C n d : String} {k : Int32} (h : (Jvm.Cond.eq (Term.static C n d) (Term.int k)).before args s = true) (w : (Jvm.Cond.initializedFor C n d).before args s = true) : Sta s s.heap C n d (.int k) := by
  have h := Cond.before_iff.mp h
  obtain ⟨xv, yv, e1, e2, k1, k2⟩ := cmp_v (Or.inl h)
  cases (Term.int_eval k).symm.trans e2
  obtain ⟨z, rfl⟩ := k2
  have h0 := gotT (Cond.eq_ints e1 (Term.int_eval k)) h
  subst h0
  exact Sta.start e1 (Or.inl w)
theorem comes_1 {Post : Tables → Env → Array Value → State → Outcome → State → Prop} (hpost : ∀ tb e args s v u, (limb_1_1.after args s (.returned v) u = true ∧ limb_1_2.after args s (.returned v) u = true) → ReturnedEndW s (.returned v) u (Jvm.fieldLocs frame_1_writes args s ++ Jvm.arrayLocs frame_1_arrays args s ++ Jvm.staticLocs frame_1_statics s) 72 1280 → Post tb e args s (.returned v) u) :
    ArmFor flags0 classFile x code maxLocals ret World_1 tables_1 room_1 Calls_1 rest_1 Pre_1 Post := by
  intro l hfl _ _ p e ha hc hk s m args below hf hA hF happ hP
  obtain ⟨hcalls, hrest, hpre⟩ := hP
  obtain ⟨-, -, -, hnamed, -, -, -, hat⟩ := (Spec.applies_iff hf).mp happ
  obtain ⟨hg, hn⟩ := and_e (Cond.before_iff.mp (show (Jvm.Cond.and given_1 narrow_1).before args s = true from hpre))
  obtain ⟨g0, r0⟩ := and_e hg
  obtain ⟨i0, r1⟩ := and_e r0
  obtain ⟨i1, r2⟩ := and_e r1
  obtain ⟨i2, r3⟩ := and_e r2
  obtain ⟨i3, r4⟩ := and_e r3
  obtain ⟨i4, r5⟩ := and_e r4
  obtain ⟨w0, w1, w2, w3, w4, w5, rfl⟩ : ∃ w0 w1 w2 w3 w4 w5 : Value, args = #[w0, w1, w2, w3, w4, w5] := by
    have hs : args.size = 6 := by simpa [Cond.value, given_1] using g0
    obtain ⟨L⟩ := args
    match L, hs with
    | [w0, w1, w2, w3, w4, w5], _ => exact ⟨w0, w1, w2, w3, w4, w5, rfl⟩
  have hw := fun d (hd : d ∈ tables_1) => atoms_spec (ws := Jvm.Cond.code x code maxLocals ret :: tables_1) hat d (List.mem_cons_of_mem _ hd)
  obtain ⟨hsets, hown0⟩ := atoms_of _ (rest_1_c_eq ▸ (show rest_1_c.before _ s = true from hrest))
  have hfit : Fit s := fun {y c} hc i hi => by
    obtain ⟨ha, rfl⟩ := Array.getElem?_eq_some_iff.mp hc
    have q := List.all_eq_true.mp ((Array.all_eq_true_iff_forall_mem.mp hF) _ (Array.getElem_mem ha)) i (List.mem_range.mpr hi)
    simpa [Array.getElem?_eq_getElem hi] using q
  obtain ⟨z0, q0⟩ := is_v i0
  obtain rfl : w0 = (.int z0) := Option.some.inj q0
  obtain ⟨z1, q1⟩ := is_v i1
  obtain rfl : w1 = (.int z1) := Option.some.inj q1
  obtain ⟨z2, q2⟩ := is_v i2
  obtain rfl : w2 = (.int z2) := Option.some.inj q2
  obtain ⟨z3, q3⟩ := is_v i3
  obtain rfl : w3 = (.int z3) := Option.some.inj q3
  obtain ⟨z4, q4⟩ := is_v i4
  obtain rfl : w4 = (.int z4) := Option.some.inj q4
  obtain ⟨z5, q5⟩ := is_v r5
  obtain rfl : w5 = (.int z5) := Option.some.inj q5
  have n5 := not_v (Cond.before_iff.mp (hsets _ (List.mem_of_getElem? (i := 27) rfl)))
  obtain ⟨zC, ezC⟩ := is_v (Cond.before_iff.mp (hsets _ (List.mem_of_getElem? (i := 26) rfl)))
  have SC : Sta s s.heap "java/lang/String" "COMPACT_STRINGS" "Z" (.int zC) := Sta.start ezC (Or.inl (hsets _ (List.mem_of_getElem? (i := 25) rfl)))
  have PC : ¬ (zC = (0 : Int32)) := gotF (Cond.eq_ints ezC (Term.int_eval (0))) n5
  have x11 := Cond.before_iff.mp (hsets _ (List.mem_of_getElem? (i := 11) rfl))
  obtain ⟨aE, eE⟩ := exa_v x11
  have SE : Sta s s.heap "java/util/ImmutableCollections" "EMPTY_LIST" "Ljava/util/ImmutableCollections$ListN;" (.ref aE) := Sta.start eE (Or.inl (hsets _ (List.mem_of_getElem? (i := 10) rfl)))
  have PE1 := Exa.start eE x11
  have x12 := Cond.before_iff.mp (hsets _ (List.mem_of_getElem? (i := 12) rfl))
  obtain ⟨eA, eeA⟩ := arr_v x12
  have PE2 := Fld.start ((fld_at eE).symm.trans eeA)
  obtain ⟨eC, arE⟩ := Arr.start eeA x12
  have PE3 := own_len0 hfit eeA arE (Cond.before_iff.mp (hsets _ (List.mem_of_getElem? (i := 14) rfl)))
  have PE4 := own_fld0 eE (Cond.before_iff.mp (hsets _ (List.mem_of_getElem? (i := 15) rfl)))
  have y16 := Cond.before_iff.mp (hsets _ (List.mem_of_getElem? (i := 7) rfl))
  obtain ⟨aD, eD⟩ := exa_v y16
  have SD : Sta s s.heap "java/util/ArrayList" "DEFAULTCAPACITY_EMPTY_ELEMENTDATA" "[Ljava/lang/Object;" (.ref aD) := Sta.start eD (Or.inr ⟨(wd46 hw), (hsets _ (List.mem_of_getElem? (i := 2) rfl))⟩)
  have PD1 := Exa.start eD y16
  have y15 := Cond.before_iff.mp (hsets _ (List.mem_of_getElem? (i := 6) rfl))
  obtain ⟨dC, arD⟩ := Arr.start eD y15
  have PD2 := own_len0 hfit eD arD (Cond.before_iff.mp (hsets _ (List.mem_of_getElem? (i := 8) rfl)))
  have x27 := Cond.before_iff.mp (hsets _ (List.mem_of_getElem? (i := 18) rfl))
  obtain ⟨aM, eM⟩ := exa_v x27
  have SM : Sta s s.heap "java/util/ImmutableCollections" "EMPTY" "Ljava/lang/Object;" (.ref aM) := Sta.start eM (Or.inl (hsets _ (List.mem_of_getElem? (i := 17) rfl)))
  have PM1 := Exa.start eM x27
  obtain ⟨mcc, mkk, mO, mq1, mq2, mq3, mq4⟩ := hcalls.1
  have MO : Mir s "[Ljava/lang/Object;" mO := ⟨mcc, mkk, mq1, mq2, mq3, mq4⟩
  have hCH : CHv s EL s.vm s.heap := CHv.start (own_EW hw) hcalls.2.1 (hsets _ (List.mem_of_getElem? (i := 27) rfl)) (wd19 hw) (wd5 hw)
  obtain ⟨n, o, h1, h2, h3, _, L, rfl, hq1, -, hq⟩ := rm_law l s _ hw zC SC PC aE SE aD SD aM SM mO MO z0 z1 z2 z3 z4 z5 eA eC.cls [] dC.cls [] s.heap (Old.start s) PE1 PE2 PE3 PE4 PD1 PD2 PM1 tables_1 p e ha hc hk s m _ below hf ((Spec.applies_iff_loose hf).mp happ).1 ⟨rfl, State.Warmed39.refl s, rfl, hCH, fun _ q => nomatch q⟩ trivial
  obtain ⟨rfl, N, -⟩ := hq1
  exact ⟨n, _, h1, h2, h3, hpost _ _ _ _ _ _ ⟨Cond.after_iff.mpr rfl, Cond.after_iff.mpr (eq_i res_at (Term.int_eval (1)) rfl)⟩ ⟨hq.1, hq.2.1, hq.2.2.1, hq.2.2.2.sift fun y hy => Or.inr (N y hy)⟩⟩
theorem main_1_1 : Claimed_1_1 := comes_1 fun _ _ _ _ _ _ h hF => ⟨h.1, hF⟩
theorem main_1_2 : Claimed_1_2 := comes_1 fun _ _ _ _ _ _ h hF => ⟨h.2, hF⟩
end Jvm.Pilot.@@N@@
namespace Jvm.Pilot.@@N@@
open Jvm Jvm.ClassFile Sem Op Lib Jvm.Free Jvm.Stand Jvm.Pilot.@@N@@.Jvm.D
/-! MADE BY PROGRAM (witnessworld.py) out of the Statement's table words and the real class files: 42 classes; the members and pool entries that the words name. The judged class is class 1, her method 3. -/
namespace start1
open Jvm.ClassFile
def u (s : String) : CpInfo := .utf8 (stringToUtf16 s)
/-- a pool by its gaps: so many unusable entries, then the entry; so many at the end -/
def gap : Nat → List CpInfo → List CpInfo
  | 0, r => r
  | n + 1, r => .unusable :: gap n r
def poolList (es : List (Nat × CpInfo)) (last : Nat) : List CpInfo := es.foldr (fun e r => gap e.1 (e.2 :: r)) (gap last [])
def pool (es : List (Nat × CpInfo)) (last : Nat) : Array CpInfo := ⟨poolList es last⟩
def fileOf (pool : Array CpInfo) (this : Nat) (attrs : Array Attribute := #[]) (ms : Array MethodInfo := #[]) (fl : Nat := 33) (sup : Nat := 0) (ifs : Array Nat := #[]) (fds : Array FieldInfo := #[]) : ClassFile where
  minorVersion := 0
  majorVersion := 65
  constantPool := pool
  accessFlags := fl
  thisClass := this
  superClass := sup
  interfaces := ifs
  fields := fds
  methods := ms
  attributes := attrs
def plain (name : String) (sup : Option ClassId) : Class where
  name := name
  kind := .ordinary
  loader := none
  accessFlags := 33
  super := sup
  interfaces := #[]
  cf := none
  fields := #[]
  methods := #[]
  instanceTypes := #[]
  staticTypes := #[]
  resolved := #[]
  callSites := []
  init := .initialized
  statics := none
  mirror := none

def pool0 : Array CpInfo := pool [(5, u "<init>"), (0, u "()V"), (1, .class_ 10), (1, u "java/lang/Object"), (0, u "getClass"), (0, u "()Ljava/lang/Class;")] 111

def k0c0 : Code := { maxStack := 0, maxLocals := 1, code := object_method_1_code, exceptionTable := #[], attributes := #[] }
def k0m0 : Method := { name := "<init>", desc := "()V", sig := { parameters := [], returnType := none }, accessFlags := 1, code := some k0c0 }
def k0m1 : Method := { name := "getClass", desc := "()Ljava/lang/Class;", sig := { parameters := [], returnType := some (.object "java/lang/Class") }, accessFlags := 273, code := none }
/-- java/lang/Object -/
def k0 : Class := { plain "java/lang/Object" none with
  accessFlags := 33
  interfaces := #[]
  cf := some (fileOf pool0 8 #[] #[{ accessFlags := 1, nameIndex := 5, descriptorIndex := 6, attributes := #[] }, { accessFlags := 273, nameIndex := 11, descriptorIndex := 12, attributes := #[] }] 33 0 #[] #[])
  fields := #[]
  methods := #[k0m0, k0m1]
  instanceTypes := #[]
  staticTypes := #[]
  resolved := Array.replicate 124 none
  statics := none }

def pool1 : Array CpInfo := pool [(2, .class_ 4), (0, .nameAndType 5 6), (0, u "java/lang/Object"), (0, u "<init>"), (0, u "()V"), (0, .class_ 8), (0, u "java/lang/String"), (0, .methodref 7 10), (0, .nameAndType 5 11), (0, u "([C)V"), (0, .methodref 7 13), (0, .nameAndType 14 15), (0, u "valueOf"), (0, u "(C)Ljava/lang/String;"), (0, .methodref 7 17), (0, .nameAndType 18 19), (0, u "equals"), (0, u "(Ljava/lang/Object;)Z"), (0, .methodref 21 22), (0, .class_ 23), (0, .nameAndType 24 25), (0, u "com/example/quaymark/quaymark/ReviewSignedOffPinLaw"), (0, u "str"), (0, u "(I)Ljava/lang/String;"), (0, .class_ 27), (0, u "com/example/quaymark/quaymark/Review$Withdrawal"), (0, .methodref 26 29), (0, .nameAndType 5 30), (0, u "(Ljava/lang/String;Ljava/lang/String;)V"), (0, .class_ 32), (0, u "com/example/quaymark/quaymark/Review$LeftOut"), (0, .methodref 31 34), (0, .nameAndType 5 35), (0, u "(ILjava/lang/String;Ljava/lang/String;)V"), (0, .class_ 37), (0, u "java/util/ArrayList"), (0, .methodref 36 3), (0, .interfaceMethodref 40 41), (0, .class_ 42), (0, .nameAndType 43 19), (0, u "java/util/List"), (0, u "add"), (0, .class_ 45), (0, u "com/example/quaymark/quaymark/Review"), (0, .methodref 44 47), (0, .nameAndType 5 48), (0, u "(Ljava/lang/String;Ljava/util/List;Ljava/lang/String;Lcom/example/quaymark/quaymark/Review$Withdrawal;)V"), (0, .methodref 44 50), (0, .nameAndType 51 52), (0, u "signedOff"), (0, u "(Ljava/lang/String;)Lcom/example/quaymark/quaymark/Review;"), (0, .methodref 44 54), (0, .nameAndType 55 56), (0, u "leftOut"), (0, u "()Ljava/util/List;"), (0, .interfaceMethodref 40 58), (0, .nameAndType 59 60), (0, u "size"), (0, u "()I"), (0, .interfaceMethodref 40 62), (0, .nameAndType 63 64), (0, u "get"), (0, u "(I)Ljava/lang/Object;"), (0, .methodref 44 66), (0, .nameAndType 67 68), (0, u "submittedBy"), (0, u "()Ljava/lang/String;"), (0, .methodref 21 70), (0, .nameAndType 71 72), (0, u "same"), (0, u "(Ljava/lang/String;Ljava/lang/String;)Z"), (0, .methodref 44 74), (0, .nameAndType 75 68), (0, u "signedOffBy"), (0, .methodref 44 77), (0, .nameAndType 78 79), (0, u "withdrawn"), (0, u "()Lcom/example/quaymark/quaymark/Review$Withdrawal;"), (3, u "law"), (0, u "(IIIIII)Z")] 5

def k1m0 : Method := { name := "<init>", desc := "()V", sig := { parameters := [], returnType := none }, accessFlags := 1, code := none }
def k1c1 : Code := { maxStack := 3, maxLocals := 5, code := method_2_code, exceptionTable := #[], attributes := #[] }
def k1m1 : Method := { name := "str", desc := "(I)Ljava/lang/String;", sig := { parameters := [.int], returnType := some (.object "java/lang/String") }, accessFlags := 10, code := some k1c1 }
def k1c2 : Code := { maxStack := 2, maxLocals := 2, code := method_3_code, exceptionTable := #[], attributes := #[] }
def k1m2 : Method := { name := "same", desc := "(Ljava/lang/String;Ljava/lang/String;)Z", sig := { parameters := [(.object "java/lang/String"), (.object "java/lang/String")], returnType := some .boolean }, accessFlags := 10, code := some k1c2 }
def k1c3 : Code := { maxStack := 6, maxLocals := 18, code := code, exceptionTable := #[], attributes := #[] }
def k1m3 : Method := { name := "law", desc := "(IIIIII)Z", sig := { parameters := [.int, .int, .int, .int, .int, .int], returnType := some .boolean }, accessFlags := 9, code := some k1c3 }
/-- com/example/quaymark/quaymark/ReviewSignedOffPinLaw -/
def k1 : Class := { plain "com/example/quaymark/quaymark/ReviewSignedOffPinLaw" (some 0) with
  accessFlags := 49
  interfaces := #[]
  cf := some (fileOf pool1 21 #[] #[{ accessFlags := 1, nameIndex := 5, descriptorIndex := 6, attributes := #[] }, { accessFlags := 10, nameIndex := 24, descriptorIndex := 25, attributes := #[] }, { accessFlags := 10, nameIndex := 71, descriptorIndex := 72, attributes := #[] }, { accessFlags := 9, nameIndex := 83, descriptorIndex := 84, attributes := #[] }] 49 2 #[] #[])
  fields := #[]
  methods := #[k1m0, k1m1, k1m2, k1m3]
  instanceTypes := #[]
  staticTypes := #[]
  resolved := Array.replicate 90 none
  statics := none }

def pool2 : Array CpInfo := pool [(1, .class_ 2), (0, u "java/io/Serializable"), (0, .class_ 4), (0, u "java/lang/Object")] 2

/-- java/io/Serializable -/
def k2 : Class := { plain "java/io/Serializable" (some 0) with
  accessFlags := 1537
  interfaces := #[]
  cf := some (fileOf pool2 1 #[] #[] 1537 3 #[] #[])
  fields := #[]
  methods := #[]
  instanceTypes := #[]
  staticTypes := #[]
  resolved := Array.replicate 7 none
  statics := none }

def pool3 : Array CpInfo := pool [(1, .class_ 2), (0, u "java/lang/Comparable"), (0, .class_ 4), (0, u "java/lang/Object")] 7

/-- java/lang/Comparable -/
def k3 : Class := { plain "java/lang/Comparable" (some 0) with
  accessFlags := 1537
  interfaces := #[]
  cf := some (fileOf pool3 1 #[] #[] 1537 3 #[] #[])
  fields := #[]
  methods := #[]
  instanceTypes := #[]
  staticTypes := #[]
  resolved := Array.replicate 12 none
  statics := none }

def pool4 : Array CpInfo := pool [(2, .class_ 4), (1, u "java/lang/CharSequence"), (42, .class_ 48), (0, u "java/lang/CharSequence$1CodePointIterator"), (10, .class_ 60), (0, u "java/lang/CharSequence$1CharIterator"), (5, .class_ 67), (0, u "java/lang/Object")] 63

/-- java/lang/CharSequence -/
def k4 : Class := { plain "java/lang/CharSequence" (some 0) with
  accessFlags := 1537
  interfaces := #[]
  cf := some (fileOf pool4 2 #[.nestMembers #[47, 59]] #[] 1537 66 #[] #[])
  fields := #[]
  methods := #[]
  instanceTypes := #[]
  staticTypes := #[]
  resolved := Array.replicate 131 none
  statics := none }

def pool5 : Array CpInfo := pool [(1, .class_ 2), (0, u "java/lang/constant/Constable"), (0, .class_ 4), (0, u "java/lang/Object")] 6

/-- java/lang/constant/Constable -/
def k5 : Class := { plain "java/lang/constant/Constable" (some 0) with
  accessFlags := 1537
  interfaces := #[]
  cf := some (fileOf pool5 1 #[] #[] 1537 3 #[] #[])
  fields := #[]
  methods := #[]
  instanceTypes := #[]
  staticTypes := #[]
  resolved := Array.replicate 11 none
  statics := none }

def pool6 : Array CpInfo := pool [(1, .class_ 2), (0, u "java/lang/constant/ConstantDesc"), (0, .class_ 4), (0, u "java/lang/Object")] 32

/-- java/lang/constant/ConstantDesc -/
def k6 : Class := { plain "java/lang/constant/ConstantDesc" (some 0) with
  accessFlags := 1537
  interfaces := #[]
  cf := some (fileOf pool6 1 #[] #[] 1537 3 #[] #[])
  fields := #[]
  methods := #[]
  instanceTypes := #[]
  staticTypes := #[]
  resolved := Array.replicate 37 none
  statics := none }

def pool7 : Array CpInfo := pool [(1, .methodref 2 3), (0, .class_ 4), (0, .nameAndType 5 6), (0, u "java/lang/Object"), (0, u "<init>"), (0, u "()V"), (0, .string 8), (0, u ""), (0, .fieldref 10 11), (0, .class_ 12), (0, .nameAndType 13 14), (0, u "java/lang/String"), (0, u "value"), (0, u "[B"), (0, .fieldref 10 16), (0, .nameAndType 17 18), (0, u "coder"), (0, u "B"), (2, u "hash"), (0, u "I"), (2, u "hashIsZero"), (0, u "Z"), (0, .methodref 10 28), (0, .nameAndType 5 29), (0, u "([CIILjava/lang/Void;)V"), (8, .fieldref 10 39), (0, .nameAndType 40 26), (0, u "COMPACT_STRINGS"), (1, .class_ 44), (1, u "java/lang/StringUTF16"), (0, u "compress"), (1, .methodref 42 48), (0, .nameAndType 49 50), (0, u "coderFromArrayLen"), (0, u "([BI)B"), (2, u "toBytes"), (53, .class_ 109), (1, u "java/lang/StringLatin1"), (67, .methodref 42 178), (0, .nameAndType 45 179), (0, u "([CII)[B"), (29, .methodref 10 210), (0, .nameAndType 5 211), (0, u "([BB)V"), (157, u "(C)Z"), (173, u "equals"), (29, u "(Ljava/lang/Object;)Z"), (1, .class_ 576), (0, u "java/lang/CharSequence"), (22, u "CASE_INSENSITIVE_ORDER"), (0, u "Ljava/util/Comparator;"), (181, u "valueOf"), (0, u "(C)Ljava/lang/String;"), (226, u "([C)V"), (4, .methodref 107 1016), (0, .nameAndType 1017 369), (0, u "canEncode"), (0, .methodref 107 1019), (0, .nameAndType 53 1020), (0, u "(C)[B"), (80, u "serialPersistentFields"), (0, u "[Ljava/io/ObjectStreamField;"), (0, .class_ 1104), (0, u "java/lang/String$CaseInsensitiveComparator"), (1, .class_ 1107), (0, u "java/io/Serializable"), (0, .class_ 1109), (0, u "java/lang/Comparable"), (0, .class_ 1111), (0, u "java/lang/constant/Constable"), (0, .class_ 1113), (0, u "java/lang/constant/ConstantDesc"), (2, u "serialVersionUID"), (0, u "J"), (3, u "REPL"), (0, u "C"), (2, u "LATIN1"), (1, u "UTF16")] 323

def k7m0 : Method := { name := "<init>", desc := "()V", sig := { parameters := [], returnType := none }, accessFlags := 1, code := none }
def k7c1 : Code := { maxStack := 5, maxLocals := 2, code := jdk_42_method_3_code, exceptionTable := #[], attributes := #[] }
def k7m1 : Method := { name := "<init>", desc := "([C)V", sig := { parameters := [(.array .char)], returnType := none }, accessFlags := 1, code := some k7c1 }
def k7c2 : Code := { maxStack := 2, maxLocals := 3, code := jdk_42_method_66_code, exceptionTable := #[], attributes := #[] }
def k7m2 : Method := { name := "equals", desc := "(Ljava/lang/Object;)Z", sig := { parameters := [(.object "java/lang/Object")], returnType := some .boolean }, accessFlags := 1, code := some k7c2 }
def k7c3 : Code := { maxStack := 4, maxLocals := 1, code := jdk_42_method_139_code, exceptionTable := #[], attributes := #[] }
def k7m3 : Method := { name := "valueOf", desc := "(C)Ljava/lang/String;", sig := { parameters := [.char], returnType := some (.object "java/lang/String") }, accessFlags := 9, code := some k7c3 }
def k7c4 : Code := { maxStack := 4, maxLocals := 6, code := jdk_42_method_149_code, exceptionTable := #[], attributes := #[] }
def k7m4 : Method := { name := "<init>", desc := "([CIILjava/lang/Void;)V", sig := { parameters := [(.array .char), .int, .int, (.object "java/lang/Void")], returnType := none }, accessFlags := 2, code := some k7c4 }
def k7c5 : Code := { maxStack := 2, maxLocals := 3, code := jdk_42_method_151_code, exceptionTable := #[], attributes := #[] }
def k7m5 : Method := { name := "<init>", desc := "([BB)V", sig := { parameters := [(.array .byte), .byte], returnType := none }, accessFlags := 0, code := some k7c5 }
/-- java/lang/String -/
def k7 : Class := { plain "java/lang/String" (some 0) with
  accessFlags := 49
  interfaces := #[2, 3, 4, 5, 6]
  cf := some (fileOf pool7 10 #[.nestMembers #[1103]] #[{ accessFlags := 1, nameIndex := 5, descriptorIndex := 6, attributes := #[] }, { accessFlags := 1, nameIndex := 5, descriptorIndex := 1010, attributes := #[] }, { accessFlags := 1, nameIndex := 543, descriptorIndex := 573, attributes := #[] }, { accessFlags := 9, nameIndex := 782, descriptorIndex := 783, attributes := #[] }, { accessFlags := 2, nameIndex := 5, descriptorIndex := 29, attributes := #[] }, { accessFlags := 0, nameIndex := 5, descriptorIndex := 211, attributes := #[] }] 49 2 #[1106, 1108, 575, 1110, 1112] #[{ accessFlags := 18, nameIndex := 13, descriptorIndex := 14, attributes := #[] }, { accessFlags := 18, nameIndex := 17, descriptorIndex := 18, attributes := #[] }, { accessFlags := 2, nameIndex := 21, descriptorIndex := 22, attributes := #[] }, { accessFlags := 2, nameIndex := 25, descriptorIndex := 26, attributes := #[] }, { accessFlags := 26, nameIndex := 1116, descriptorIndex := 1117, attributes := #[] }, { accessFlags := 24, nameIndex := 40, descriptorIndex := 26, attributes := #[] }, { accessFlags := 26, nameIndex := 1101, descriptorIndex := 1102, attributes := #[] }, { accessFlags := 26, nameIndex := 1121, descriptorIndex := 1122, attributes := #[] }, { accessFlags := 25, nameIndex := 599, descriptorIndex := 600, attributes := #[] }, { accessFlags := 24, nameIndex := 1125, descriptorIndex := 18, attributes := #[] }, { accessFlags := 24, nameIndex := 1127, descriptorIndex := 18, attributes := #[] }])
  fields := #[{ name := "value", type := (.array .byte), accessFlags := 18, slot := 0, constantValue := 0 }, { name := "coder", type := .byte, accessFlags := 18, slot := 1, constantValue := 0 }, { name := "hash", type := .int, accessFlags := 2, slot := 2, constantValue := 0 }, { name := "hashIsZero", type := .boolean, accessFlags := 2, slot := 3, constantValue := 0 }, { name := "serialVersionUID", type := .long, accessFlags := 26, slot := 0, constantValue := 0 }, { name := "COMPACT_STRINGS", type := .boolean, accessFlags := 24, slot := 1, constantValue := 0 }, { name := "serialPersistentFields", type := (.array (.object "java/io/ObjectStreamField")), accessFlags := 26, slot := 2, constantValue := 0 }, { name := "REPL", type := .char, accessFlags := 26, slot := 3, constantValue := 0 }, { name := "CASE_INSENSITIVE_ORDER", type := (.object "java/util/Comparator"), accessFlags := 25, slot := 4, constantValue := 0 }, { name := "LATIN1", type := .byte, accessFlags := 24, slot := 5, constantValue := 0 }, { name := "UTF16", type := .byte, accessFlags := 24, slot := 6, constantValue := 0 }]
  methods := #[k7m0, k7m1, k7m2, k7m3, k7m4, k7m5]
  instanceTypes := #[(.array .byte), .byte, .int, .boolean]
  staticTypes := #[.long, .boolean, (.array (.object "java/io/ObjectStreamField")), .char, (.object "java/util/Comparator"), .byte, .byte]
  resolved := Array.replicate 1451 none
  statics := some 0 }

def pool8 : Array CpInfo := pool [(1, .methodref 2 3), (0, .class_ 4), (0, .nameAndType 5 6), (0, u "java/lang/Object"), (0, u "<init>"), (0, u "()V"), (0, .class_ 8), (0, u "java/lang/Record")] 13

def k8c0 : Code := { maxStack := 1, maxLocals := 1, code := jdk_30_method_1_code, exceptionTable := #[], attributes := #[] }
def k8m0 : Method := { name := "<init>", desc := "()V", sig := { parameters := [], returnType := none }, accessFlags := 4, code := some k8c0 }
/-- java/lang/Record -/
def k8 : Class := { plain "java/lang/Record" (some 0) with
  accessFlags := 1057
  interfaces := #[]
  cf := some (fileOf pool8 7 #[] #[{ accessFlags := 4, nameIndex := 5, descriptorIndex := 6, attributes := #[] }] 1057 2 #[] #[])
  fields := #[]
  methods := #[k8m0]
  instanceTypes := #[]
  staticTypes := #[]
  resolved := Array.replicate 22 none
  statics := none }

def pool9 : Array CpInfo := pool [(1, .methodref 2 3), (0, .class_ 4), (0, .nameAndType 5 6), (0, u "java/lang/Record"), (0, u "<init>"), (0, u "()V"), (0, .fieldref 8 9), (0, .class_ 10), (0, .nameAndType 11 12), (0, u "com/example/quaymark/quaymark/Review$LeftOut"), (0, u "line"), (0, u "I"), (0, .fieldref 8 14), (0, .nameAndType 15 16), (0, u "reason"), (0, u "Ljava/lang/String;"), (0, .fieldref 8 18), (0, .nameAndType 19 16), (0, u "by"), (12, u "(ILjava/lang/String;Ljava/lang/String;)V"), (9, .class_ 43), (0, u "com/example/quaymark/quaymark/Review")] 21

def k9c0 : Code := { maxStack := 2, maxLocals := 4, code := prog_24_method_1_code, exceptionTable := #[], attributes := #[] }
def k9m0 : Method := { name := "<init>", desc := "(ILjava/lang/String;Ljava/lang/String;)V", sig := { parameters := [.int, (.object "java/lang/String"), (.object "java/lang/String")], returnType := none }, accessFlags := 0, code := some k9c0 }
/-- com/example/quaymark/quaymark/Review$LeftOut -/
def k9 : Class := { plain "com/example/quaymark/quaymark/Review$LeftOut" (some 8) with
  accessFlags := 48
  interfaces := #[]
  cf := some (fileOf pool9 8 #[.nestHost 42] #[{ accessFlags := 0, nameIndex := 5, descriptorIndex := 32, attributes := #[] }] 48 2 #[] #[{ accessFlags := 18, nameIndex := 11, descriptorIndex := 12, attributes := #[] }, { accessFlags := 18, nameIndex := 15, descriptorIndex := 16, attributes := #[] }, { accessFlags := 18, nameIndex := 19, descriptorIndex := 16, attributes := #[] }])
  fields := #[{ name := "line", type := .int, accessFlags := 18, slot := 0, constantValue := 0 }, { name := "reason", type := (.object "java/lang/String"), accessFlags := 18, slot := 1, constantValue := 0 }, { name := "by", type := (.object "java/lang/String"), accessFlags := 18, slot := 2, constantValue := 0 }]
  methods := #[k9m0]
  instanceTypes := #[.int, (.object "java/lang/String"), (.object "java/lang/String")]
  staticTypes := #[]
  resolved := Array.replicate 65 none
  statics := none }

def pool10 : Array CpInfo := pool [(8, .class_ 10), (1, u "java/lang/Iterable"), (24, .class_ 36), (0, u "java/lang/Object")] 25

/-- java/lang/Iterable -/
def k10 : Class := { plain "java/lang/Iterable" (some 0) with
  accessFlags := 1537
  interfaces := #[]
  cf := some (fileOf pool10 8 #[] #[] 1537 35 #[] #[])
  fields := #[]
  methods := #[]
  instanceTypes := #[]
  staticTypes := #[]
  resolved := Array.replicate 62 none
  statics := none }

def pool11 : Array CpInfo := pool [(10, .class_ 12), (1, u "java/util/Collection"), (0, u "toArray"), (16, u "()Z"), (29, .class_ 61), (0, u "java/lang/Object"), (0, .class_ 63), (0, u "java/lang/Iterable"), (2, u "isEmpty"), (3, u "()[Ljava/lang/Object;")] 44

def k11m0 : Method := { name := "isEmpty", desc := "()Z", sig := { parameters := [], returnType := some .boolean }, accessFlags := 1025, code := none }
def k11m1 : Method := { name := "toArray", desc := "()[Ljava/lang/Object;", sig := { parameters := [], returnType := some (.array (.object "java/lang/Object")) }, accessFlags := 1025, code := none }
/-- java/util/Collection -/
def k11 : Class := { plain "java/util/Collection" (some 0) with
  accessFlags := 1537
  interfaces := #[10]
  cf := some (fileOf pool11 10 #[] #[{ accessFlags := 1025, nameIndex := 66, descriptorIndex := 30, attributes := #[] }, { accessFlags := 1025, nameIndex := 13, descriptorIndex := 70, attributes := #[] }] 1537 60 #[62] #[])
  fields := #[]
  methods := #[k11m0, k11m1]
  instanceTypes := #[]
  staticTypes := #[]
  resolved := Array.replicate 115 none
  statics := none }

def pool12 : Array CpInfo := pool [(1, .methodref 2 3), (0, .class_ 4), (0, .nameAndType 5 6), (0, u "java/lang/Object"), (0, u "<init>"), (0, u "()V"), (1, .class_ 10), (1, u "java/util/AbstractCollection"), (66, .class_ 78), (0, u "java/util/Collection")] 81

def k12c0 : Code := { maxStack := 1, maxLocals := 1, code := jdk_22_method_1_code, exceptionTable := #[], attributes := #[] }
def k12m0 : Method := { name := "<init>", desc := "()V", sig := { parameters := [], returnType := none }, accessFlags := 4, code := some k12c0 }
/-- java/util/AbstractCollection -/
def k12 : Class := { plain "java/util/AbstractCollection" (some 0) with
  accessFlags := 1057
  interfaces := #[11]
  cf := some (fileOf pool12 8 #[] #[{ accessFlags := 4, nameIndex := 5, descriptorIndex := 6, attributes := #[] }] 1057 2 #[77] #[])
  fields := #[]
  methods := #[k12m0]
  instanceTypes := #[]
  staticTypes := #[]
  resolved := Array.replicate 160 none
  statics := none }

def pool13 : Array CpInfo := pool [(8, .class_ 10), (1, u "java/util/SequencedCollection"), (15, .class_ 27), (0, u "java/lang/Object"), (0, .class_ 29), (0, u "java/util/Collection")] 27

/-- java/util/SequencedCollection -/
def k13 : Class := { plain "java/util/SequencedCollection" (some 0) with
  accessFlags := 1537
  interfaces := #[11]
  cf := some (fileOf pool13 8 #[] #[] 1537 26 #[28] #[])
  fields := #[]
  methods := #[]
  instanceTypes := #[]
  staticTypes := #[]
  resolved := Array.replicate 57 none
  statics := none }

def pool14 : Array CpInfo := pool [(8, .class_ 10), (1, u "java/util/List"), (20, u "(Ljava/lang/Object;)V"), (16, u "<init>"), (11, u "add"), (3, u "(Ljava/lang/Object;)Z"), (10, u "get"), (0, u "(I)Ljava/lang/Object;"), (2, u "size"), (0, u "()I"), (7, u "of"), (1, .fieldref 91 92), (0, .class_ 93), (0, .nameAndType 94 95), (0, u "java/util/ImmutableCollections"), (0, u "EMPTY_LIST"), (0, u "Ljava/util/ImmutableCollections$ListN;"), (0, .class_ 97), (0, u "java/util/ImmutableCollections$List12"), (0, .methodref 96 99), (0, .nameAndType 48 31), (0, .methodref 96 101), (0, .nameAndType 48 102), (0, u "(Ljava/lang/Object;Ljava/lang/Object;)V"), (0, .class_ 104), (0, u "java/lang/Object"), (3, u "([Ljava/lang/Object;)Ljava/util/List;"), (3, .methodref 91 113), (0, .nameAndType 114 115), (0, u "listCopy"), (0, u "(Ljava/util/Collection;)Ljava/util/List;"), (3, u "()Ljava/util/List;"), (0, .class_ 121), (0, u "java/util/SequencedCollection"), (112, u "copyOf")] 16

def k14m0 : Method := { name := "size", desc := "()I", sig := { parameters := [], returnType := some .int }, accessFlags := 1025, code := none }
def k14m1 : Method := { name := "add", desc := "(Ljava/lang/Object;)Z", sig := { parameters := [(.object "java/lang/Object")], returnType := some .boolean }, accessFlags := 1025, code := none }
def k14m2 : Method := { name := "get", desc := "(I)Ljava/lang/Object;", sig := { parameters := [.int], returnType := some (.object "java/lang/Object") }, accessFlags := 1025, code := none }
def k14c3 : Code := { maxStack := 1, maxLocals := 0, code := jdk_40_method_36_code, exceptionTable := #[], attributes := #[] }
def k14m3 : Method := { name := "of", desc := "()Ljava/util/List;", sig := { parameters := [], returnType := some (.object "java/util/List") }, accessFlags := 9, code := some k14c3 }
def k14c4 : Code := { maxStack := 5, maxLocals := 2, code := jdk_40_method_47_code, exceptionTable := #[], attributes := #[] }
def k14m4 : Method := { name := "of", desc := "([Ljava/lang/Object;)Ljava/util/List;", sig := { parameters := [(.array (.object "java/lang/Object"))], returnType := some (.object "java/util/List") }, accessFlags := 137, code := some k14c4 }
def k14c5 : Code := { maxStack := 1, maxLocals := 1, code := jdk_40_method_48_code, exceptionTable := #[], attributes := #[] }
def k14m5 : Method := { name := "copyOf", desc := "(Ljava/util/Collection;)Ljava/util/List;", sig := { parameters := [(.object "java/util/Collection")], returnType := some (.object "java/util/List") }, accessFlags := 9, code := some k14c5 }
/-- java/util/List -/
def k14 : Class := { plain "java/util/List" (some 0) with
  accessFlags := 1537
  interfaces := #[13]
  cf := some (fileOf pool14 8 #[] #[{ accessFlags := 1025, nameIndex := 79, descriptorIndex := 80, attributes := #[] }, { accessFlags := 1025, nameIndex := 60, descriptorIndex := 64, attributes := #[] }, { accessFlags := 1025, nameIndex := 75, descriptorIndex := 76, attributes := #[] }, { accessFlags := 9, nameIndex := 88, descriptorIndex := 119, attributes := #[] }, { accessFlags := 137, nameIndex := 88, descriptorIndex := 108, attributes := #[] }, { accessFlags := 9, nameIndex := 234, descriptorIndex := 115, attributes := #[] }] 1537 103 #[120] #[])
  fields := #[]
  methods := #[k14m0, k14m1, k14m2, k14m3, k14m4, k14m5]
  instanceTypes := #[]
  staticTypes := #[]
  resolved := Array.replicate 251 none
  statics := none }

def pool15 : Array CpInfo := pool [(1, .methodref 2 3), (0, .class_ 4), (0, .nameAndType 5 6), (0, u "java/util/AbstractCollection"), (0, u "<init>"), (0, u "()V"), (0, .fieldref 8 9), (0, .class_ 10), (0, .nameAndType 11 12), (0, u "java/util/AbstractList"), (0, u "modCount"), (0, u "I"), (64, .class_ 78), (0, u "java/util/AbstractList$Itr"), (3, .class_ 83), (0, u "java/util/AbstractList$ListItr"), (9, .class_ 94), (0, u "java/util/AbstractList$RandomAccessSubList"), (3, .class_ 99), (0, u "java/util/AbstractList$SubList"), (33, .class_ 134), (0, u "java/util/List"), (73, .class_ 209), (0, u "java/util/AbstractList$SubList$1"), (0, .class_ 211), (0, u "java/util/AbstractList$RandomAccessSpliterator")] 6

def k15c0 : Code := { maxStack := 2, maxLocals := 1, code := jdk_39_method_1_code, exceptionTable := #[], attributes := #[] }
def k15m0 : Method := { name := "<init>", desc := "()V", sig := { parameters := [], returnType := none }, accessFlags := 4, code := some k15c0 }
/-- java/util/AbstractList -/
def k15 : Class := { plain "java/util/AbstractList" (some 12) with
  accessFlags := 1057
  interfaces := #[14]
  cf := some (fileOf pool15 8 #[.nestMembers #[93, 98, 208, 210, 82, 77]] #[{ accessFlags := 4, nameIndex := 5, descriptorIndex := 6, attributes := #[] }] 1057 2 #[133] #[{ accessFlags := 132, nameIndex := 11, descriptorIndex := 12, attributes := #[] }])
  fields := #[{ name := "modCount", type := .int, accessFlags := 132, slot := 0, constantValue := 0 }]
  methods := #[k15m0]
  instanceTypes := #[.int]
  staticTypes := #[]
  resolved := Array.replicate 218 none
  statics := none }

def pool16 : Array CpInfo := pool [(1, .class_ 2), (0, u "java/util/RandomAccess"), (0, .class_ 4), (0, u "java/lang/Object")] 2

/-- java/util/RandomAccess -/
def k16 : Class := { plain "java/util/RandomAccess" (some 0) with
  accessFlags := 1537
  interfaces := #[]
  cf := some (fileOf pool16 1 #[] #[] 1537 3 #[] #[])
  fields := #[]
  methods := #[]
  instanceTypes := #[]
  staticTypes := #[]
  resolved := Array.replicate 7 none
  statics := none }

def pool17 : Array CpInfo := pool [(1, .class_ 2), (0, u "java/lang/Cloneable"), (0, .class_ 4), (0, u "java/lang/Object")] 2

/-- java/lang/Cloneable -/
def k17 : Class := { plain "java/lang/Cloneable" (some 0) with
  accessFlags := 1537
  interfaces := #[]
  cf := some (fileOf pool17 1 #[] #[] 1537 3 #[] #[])
  fields := #[]
  methods := #[]
  instanceTypes := #[]
  staticTypes := #[]
  resolved := Array.replicate 7 none
  statics := none }

def pool18 : Array CpInfo := pool [(1, .methodref 2 3), (0, .class_ 4), (0, .nameAndType 5 6), (0, u "java/util/AbstractList"), (0, u "<init>"), (0, u "()V"), (0, .class_ 8), (0, u "java/lang/Object"), (0, .fieldref 10 11), (0, .class_ 12), (0, .nameAndType 13 14), (0, u "java/util/ArrayList"), (0, u "elementData"), (0, u "[Ljava/lang/Object;"), (2, u "EMPTY_ELEMENTDATA"), (21, .fieldref 10 40), (0, .nameAndType 41 14), (0, u "DEFAULTCAPACITY_EMPTY_ELEMENTDATA"), (4, u "toArray"), (0, u "()[Ljava/lang/Object;"), (0, .fieldref 10 49), (0, .nameAndType 50 51), (0, u "size"), (0, u "I"), (6, .class_ 60), (1, u "java/util/Arrays"), (0, u "copyOf"), (1, .fieldref 10 64), (0, .nameAndType 65 51), (0, u "modCount"), (0, .methodref 58 67), (0, .nameAndType 61 68), (0, u "([Ljava/lang/Object;I)[Ljava/lang/Object;"), (0, .methodref 10 70), (0, .nameAndType 71 72), (0, u "grow"), (0, u "(I)[Ljava/lang/Object;"), (6, .methodref 80 81), (0, .class_ 82), (0, .nameAndType 83 84), (0, u "java/lang/Math"), (0, u "max"), (0, u "(II)I"), (11, u "(Ljava/lang/Object;)Z"), (32, .methodref 10 130), (0, .nameAndType 71 47), (0, .methodref 10 132), (0, .nameAndType 133 134), (0, u "add"), (0, u "(Ljava/lang/Object;[Ljava/lang/Object;I)V"), (13, .class_ 149), (0, u "java/util/List"), (23, u "()Z"), (88, .class_ 263), (0, u "java/util/ArrayList$ListItr"), (3, .class_ 268), (0, u "java/util/ArrayList$Itr"), (7, .class_ 277), (0, u "java/util/ArrayList$SubList"), (12, .class_ 291), (0, u "java/util/ArrayList$ArrayListSpliterator"), (37, .class_ 330), (0, u "java/util/RandomAccess"), (0, .class_ 332), (0, u "java/lang/Cloneable"), (0, .class_ 334), (0, u "java/io/Serializable"), (0, u "serialVersionUID"), (0, u "J"), (3, u "DEFAULT_CAPACITY"), (22, u "isEmpty"), (136, .class_ 501), (0, u "java/util/ArrayList$SubList$2"), (0, .class_ 503), (0, u "java/util/ArrayList$SubList$1")] 5

def k18c0 : Code := { maxStack := 2, maxLocals := 1, code := jdk_38_method_2_code, exceptionTable := #[], attributes := #[] }
def k18m0 : Method := { name := "<init>", desc := "()V", sig := { parameters := [], returnType := none }, accessFlags := 1, code := some k18c0 }
def k18c1 : Code := { maxStack := 4, maxLocals := 4, code := jdk_38_method_6_code, exceptionTable := #[], attributes := #[] }
def k18m1 : Method := { name := "grow", desc := "(I)[Ljava/lang/Object;", sig := { parameters := [.int], returnType := some (.array (.object "java/lang/Object")) }, accessFlags := 2, code := some k18c1 }
def k18c2 : Code := { maxStack := 3, maxLocals := 1, code := jdk_38_method_7_code, exceptionTable := #[], attributes := #[] }
def k18m2 : Method := { name := "grow", desc := "()[Ljava/lang/Object;", sig := { parameters := [], returnType := some (.array (.object "java/lang/Object")) }, accessFlags := 2, code := some k18c2 }
def k18c3 : Code := { maxStack := 1, maxLocals := 1, code := jdk_38_method_9_code, exceptionTable := #[], attributes := #[] }
def k18m3 : Method := { name := "isEmpty", desc := "()Z", sig := { parameters := [], returnType := some .boolean }, accessFlags := 1, code := some k18c3 }
def k18c4 : Code := { maxStack := 2, maxLocals := 1, code := jdk_38_method_16_code, exceptionTable := #[], attributes := #[] }
def k18m4 : Method := { name := "toArray", desc := "()[Ljava/lang/Object;", sig := { parameters := [], returnType := some (.array (.object "java/lang/Object")) }, accessFlags := 1, code := some k18c4 }
def k18c5 : Code := { maxStack := 3, maxLocals := 4, code := jdk_38_method_24_code, exceptionTable := #[], attributes := #[] }
def k18m5 : Method := { name := "add", desc := "(Ljava/lang/Object;[Ljava/lang/Object;I)V", sig := { parameters := [(.object "java/lang/Object"), (.array (.object "java/lang/Object")), .int], returnType := none }, accessFlags := 2, code := some k18c5 }
def k18c6 : Code := { maxStack := 4, maxLocals := 2, code := jdk_38_method_25_code, exceptionTable := #[], attributes := #[] }
def k18m6 : Method := { name := "add", desc := "(Ljava/lang/Object;)Z", sig := { parameters := [(.object "java/lang/Object")], returnType := some .boolean }, accessFlags := 1, code := some k18c6 }
/-- java/util/ArrayList -/
def k18 : Class := { plain "java/util/ArrayList" (some 15) with
  accessFlags := 33
  interfaces := #[14, 16, 17, 2]
  cf := some (fileOf pool18 10 #[.nestMembers #[290, 276, 500, 502, 262, 267]] #[{ accessFlags := 1, nameIndex := 5, descriptorIndex := 6, attributes := #[] }, { accessFlags := 2, nameIndex := 71, descriptorIndex := 72, attributes := #[] }, { accessFlags := 2, nameIndex := 71, descriptorIndex := 47, attributes := #[] }, { accessFlags := 1, nameIndex := 363, descriptorIndex := 173, attributes := #[] }, { accessFlags := 1, nameIndex := 46, descriptorIndex := 47, attributes := #[] }, { accessFlags := 2, nameIndex := 133, descriptorIndex := 134, attributes := #[] }, { accessFlags := 1, nameIndex := 133, descriptorIndex := 96, attributes := #[] }] 33 2 #[148, 329, 331, 333] #[{ accessFlags := 26, nameIndex := 335, descriptorIndex := 336, attributes := #[] }, { accessFlags := 26, nameIndex := 340, descriptorIndex := 51, attributes := #[] }, { accessFlags := 26, nameIndex := 17, descriptorIndex := 14, attributes := #[] }, { accessFlags := 26, nameIndex := 41, descriptorIndex := 14, attributes := #[] }, { accessFlags := 128, nameIndex := 13, descriptorIndex := 14, attributes := #[] }, { accessFlags := 2, nameIndex := 50, descriptorIndex := 51, attributes := #[] }])
  fields := #[{ name := "serialVersionUID", type := .long, accessFlags := 26, slot := 0, constantValue := 0 }, { name := "DEFAULT_CAPACITY", type := .int, accessFlags := 26, slot := 1, constantValue := 0 }, { name := "EMPTY_ELEMENTDATA", type := (.array (.object "java/lang/Object")), accessFlags := 26, slot := 2, constantValue := 0 }, { name := "DEFAULTCAPACITY_EMPTY_ELEMENTDATA", type := (.array (.object "java/lang/Object")), accessFlags := 26, slot := 3, constantValue := 0 }, { name := "elementData", type := (.array (.object "java/lang/Object")), accessFlags := 128, slot := 1, constantValue := 0 }, { name := "size", type := .int, accessFlags := 2, slot := 2, constantValue := 0 }]
  methods := #[k18m0, k18m1, k18m2, k18m3, k18m4, k18m5, k18m6]
  instanceTypes := #[.int, (.array (.object "java/lang/Object")), .int]
  staticTypes := #[.long, .int, (.array (.object "java/lang/Object")), (.array (.object "java/lang/Object"))]
  resolved := Array.replicate 509 none
  statics := some 1 }

def pool19 : Array CpInfo := pool [(1, .methodref 2 3), (0, .class_ 4), (0, .nameAndType 5 6), (0, u "java/lang/Record"), (0, u "<init>"), (0, u "()V"), (0, .interfaceMethodref 8 9), (0, .class_ 10), (0, .nameAndType 11 12), (0, u "java/util/List"), (0, u "copyOf"), (0, u "(Ljava/util/Collection;)Ljava/util/List;"), (0, .fieldref 14 15), (0, .class_ 16), (0, .nameAndType 17 18), (0, u "com/example/quaymark/quaymark/Review"), (0, u "submittedBy"), (0, u "Ljava/lang/String;"), (0, .fieldref 14 20), (0, .nameAndType 21 22), (0, u "leftOut"), (0, u "Ljava/util/List;"), (0, .fieldref 14 24), (0, .nameAndType 25 18), (0, u "signedOffBy"), (0, .fieldref 14 27), (0, .nameAndType 28 29), (0, u "withdrawn"), (0, u "Lcom/example/quaymark/quaymark/Review$Withdrawal;"), (3, u "()Ljava/util/List;"), (0, .methodref 14 35), (0, .nameAndType 5 36), (0, u "(Ljava/lang/String;Ljava/util/List;Ljava/lang/String;Lcom/example/quaymark/quaymark/Review$Withdrawal;)V"), (23, .class_ 61), (0, u "com/example/quaymark/quaymark/Review$LeftOut"), (9, u "()Ljava/lang/String;"), (44, u "MAX_TEXT"), (0, u "I"), (7, u "(Ljava/lang/String;)Lcom/example/quaymark/quaymark/Review;"), (2, u "signedOff"), (9, u "()Lcom/example/quaymark/quaymark/Review$Withdrawal;"), (3, .class_ 143), (0, u "com/example/quaymark/quaymark/Review$Withdrawal")] 33

def k19c0 : Code := { maxStack := 2, maxLocals := 5, code := prog_23_method_1_code, exceptionTable := #[], attributes := #[] }
def k19m0 : Method := { name := "<init>", desc := "(Ljava/lang/String;Ljava/util/List;Ljava/lang/String;Lcom/example/quaymark/quaymark/Review$Withdrawal;)V", sig := { parameters := [(.object "java/lang/String"), (.object "java/util/List"), (.object "java/lang/String"), (.object "com/example/quaymark/quaymark/Review$Withdrawal")], returnType := none }, accessFlags := 0, code := some k19c0 }
def k19c1 : Code := { maxStack := 6, maxLocals := 2, code := prog_23_method_4_code, exceptionTable := #[], attributes := #[] }
def k19m1 : Method := { name := "signedOff", desc := "(Ljava/lang/String;)Lcom/example/quaymark/quaymark/Review;", sig := { parameters := [(.object "java/lang/String")], returnType := some (.object "com/example/quaymark/quaymark/Review") }, accessFlags := 0, code := some k19c1 }
def k19c2 : Code := { maxStack := 1, maxLocals := 1, code := prog_23_method_12_code, exceptionTable := #[], attributes := #[] }
def k19m2 : Method := { name := "submittedBy", desc := "()Ljava/lang/String;", sig := { parameters := [], returnType := some (.object "java/lang/String") }, accessFlags := 1, code := some k19c2 }
def k19c3 : Code := { maxStack := 1, maxLocals := 1, code := prog_23_method_13_code, exceptionTable := #[], attributes := #[] }
def k19m3 : Method := { name := "leftOut", desc := "()Ljava/util/List;", sig := { parameters := [], returnType := some (.object "java/util/List") }, accessFlags := 1, code := some k19c3 }
def k19c4 : Code := { maxStack := 1, maxLocals := 1, code := prog_23_method_14_code, exceptionTable := #[], attributes := #[] }
def k19m4 : Method := { name := "signedOffBy", desc := "()Ljava/lang/String;", sig := { parameters := [], returnType := some (.object "java/lang/String") }, accessFlags := 1, code := some k19c4 }
def k19c5 : Code := { maxStack := 1, maxLocals := 1, code := prog_23_method_15_code, exceptionTable := #[], attributes := #[] }
def k19m5 : Method := { name := "withdrawn", desc := "()Lcom/example/quaymark/quaymark/Review$Withdrawal;", sig := { parameters := [], returnType := some (.object "com/example/quaymark/quaymark/Review$Withdrawal") }, accessFlags := 1, code := some k19c5 }
/-- com/example/quaymark/quaymark/Review -/
def k19 : Class := { plain "com/example/quaymark/quaymark/Review" (some 8) with
  accessFlags := 48
  interfaces := #[]
  cf := some (fileOf pool19 14 #[.nestMembers #[142, 60]] #[{ accessFlags := 0, nameIndex := 5, descriptorIndex := 36, attributes := #[] }, { accessFlags := 0, nameIndex := 128, descriptorIndex := 125, attributes := #[] }, { accessFlags := 1, nameIndex := 17, descriptorIndex := 71, attributes := #[] }, { accessFlags := 1, nameIndex := 21, descriptorIndex := 33, attributes := #[] }, { accessFlags := 1, nameIndex := 25, descriptorIndex := 71, attributes := #[] }, { accessFlags := 1, nameIndex := 28, descriptorIndex := 138, attributes := #[] }] 48 2 #[] #[{ accessFlags := 18, nameIndex := 17, descriptorIndex := 18, attributes := #[] }, { accessFlags := 18, nameIndex := 21, descriptorIndex := 22, attributes := #[] }, { accessFlags := 18, nameIndex := 25, descriptorIndex := 18, attributes := #[] }, { accessFlags := 18, nameIndex := 28, descriptorIndex := 29, attributes := #[] }, { accessFlags := 24, nameIndex := 116, descriptorIndex := 117, attributes := #[] }])
  fields := #[{ name := "submittedBy", type := (.object "java/lang/String"), accessFlags := 18, slot := 0, constantValue := 0 }, { name := "leftOut", type := (.object "java/util/List"), accessFlags := 18, slot := 1, constantValue := 0 }, { name := "signedOffBy", type := (.object "java/lang/String"), accessFlags := 18, slot := 2, constantValue := 0 }, { name := "withdrawn", type := (.object "com/example/quaymark/quaymark/Review$Withdrawal"), accessFlags := 18, slot := 3, constantValue := 0 }, { name := "MAX_TEXT", type := .int, accessFlags := 24, slot := 0, constantValue := 0 }]
  methods := #[k19m0, k19m1, k19m2, k19m3, k19m4, k19m5]
  instanceTypes := #[(.object "java/lang/String"), (.object "java/util/List"), (.object "java/lang/String"), (.object "com/example/quaymark/quaymark/Review$Withdrawal")]
  staticTypes := #[.int]
  resolved := Array.replicate 177 none
  statics := none }

def pool20 : Array CpInfo := pool [(2, .class_ 4), (1, u "java/lang/Object"), (0, u "<init>"), (0, u "()V"), (3, .class_ 11), (0, u "java/util/ImmutableCollections$List12"), (0, .class_ 13), (0, u "java/util/ImmutableCollections$ListN"), (0, .fieldref 12 15), (0, .nameAndType 16 17), (0, u "allowNulls"), (0, u "Z"), (0, .class_ 19), (0, u "java/util/List"), (0, .interfaceMethodref 21 22), (0, .class_ 23), (0, .nameAndType 24 25), (0, u "java/util/Collection"), (0, u "isEmpty"), (0, u "()Z"), (0, .interfaceMethodref 18 27), (0, .nameAndType 28 29), (0, u "of"), (0, u "()Ljava/util/List;"), (0, .interfaceMethodref 21 31), (0, .nameAndType 32 33), (0, u "toArray"), (0, u "()[Ljava/lang/Object;"), (0, .interfaceMethodref 18 35), (0, .nameAndType 28 36), (0, u "([Ljava/lang/Object;)Ljava/util/List;"), (10, .class_ 49), (1, u "java/util/ImmutableCollections"), (0, u "$assertionsDisabled"), (5, u "[Ljava/lang/Object;"), (5, u "EMPTY_LIST"), (0, u "Ljava/util/ImmutableCollections$ListN;"), (8, u "EMPTY_LIST_NULLS"), (22, u "SALT32L"), (0, u "J"), (2, u "REVERSE"), (6, u "archivedObjects"), (2, u "EMPTY"), (0, u "Ljava/lang/Object;"), (0, .class_ 112), (0, u "java/util/ImmutableCollections$SetN"), (5, u "EMPTY_SET"), (0, u "Ljava/util/ImmutableCollections$SetN;"), (0, .class_ 121), (0, u "java/util/ImmutableCollections$MapN"), (3, u "EMPTY_MAP"), (0, u "Ljava/util/ImmutableCollections$MapN;"), (4, u "EXPAND_FACTOR"), (0, u "I"), (9, u "listCopy"), (0, u "(Ljava/util/Collection;)Ljava/util/List;"), (25, .class_ 170), (0, u "java/util/ImmutableCollections$MapN$MapNIterator"), (0, .class_ 172), (0, u "java/util/ImmutableCollections$MapN$1"), (0, .class_ 174), (0, u "java/util/ImmutableCollections$Map1"), (0, .class_ 176), (0, u "java/util/ImmutableCollections$AbstractImmutableMap"), (0, .class_ 178), (0, u "java/util/ImmutableCollections$SetN$SetNIterator"), (0, .class_ 180), (0, u "java/util/ImmutableCollections$Set12"), (0, .class_ 182), (0, u "java/util/ImmutableCollections$Set12$1"), (0, .class_ 184), (0, u "java/util/ImmutableCollections$AbstractImmutableSet"), (0, .class_ 186), (0, u "java/util/ImmutableCollections$SubList"), (0, .class_ 188), (0, u "java/util/ImmutableCollections$ListItr"), (0, .class_ 190), (0, u "java/util/ImmutableCollections$AbstractImmutableList"), (0, .class_ 192), (0, u "java/util/ImmutableCollections$AbstractImmutableCollection"), (0, .class_ 194), (0, u "java/util/ImmutableCollections$Access"), (0, .class_ 196), (0, u "java/util/ImmutableCollections$Access$1")] 16

def k20m0 : Method := { name := "<init>", desc := "()V", sig := { parameters := [], returnType := none }, accessFlags := 2, code := none }
def k20c1 : Code := { maxStack := 1, maxLocals := 2, code := jdk_56_method_3_code, exceptionTable := #[], attributes := #[] }
def k20m1 : Method := { name := "listCopy", desc := "(Ljava/util/Collection;)Ljava/util/List;", sig := { parameters := [(.object "java/util/Collection")], returnType := some (.object "java/util/List") }, accessFlags := 8, code := some k20c1 }
/-- java/util/ImmutableCollections -/
def k20 : Class := { plain "java/util/ImmutableCollections" (some 0) with
  accessFlags := 32
  interfaces := #[]
  cf := some (fileOf pool20 47 #[.nestMembers #[120, 169, 171, 173, 175, 111, 177, 179, 181, 183, 12, 10, 185, 187, 189, 191, 193, 195]] #[{ accessFlags := 2, nameIndex := 5, descriptorIndex := 6, attributes := #[] }, { accessFlags := 8, nameIndex := 142, descriptorIndex := 143, attributes := #[] }] 32 2 #[] #[{ accessFlags := 26, nameIndex := 95, descriptorIndex := 96, attributes := #[] }, { accessFlags := 26, nameIndex := 99, descriptorIndex := 17, attributes := #[] }, { accessFlags := 10, nameIndex := 106, descriptorIndex := 56, attributes := #[] }, { accessFlags := 26, nameIndex := 109, descriptorIndex := 110, attributes := #[] }, { accessFlags := 24, nameIndex := 62, descriptorIndex := 63, attributes := #[] }, { accessFlags := 24, nameIndex := 72, descriptorIndex := 63, attributes := #[] }, { accessFlags := 24, nameIndex := 118, descriptorIndex := 119, attributes := #[] }, { accessFlags := 24, nameIndex := 125, descriptorIndex := 126, attributes := #[] }, { accessFlags := 24, nameIndex := 131, descriptorIndex := 132, attributes := #[] }, { accessFlags := 4120, nameIndex := 50, descriptorIndex := 17, attributes := #[] }])
  fields := #[{ name := "SALT32L", type := .long, accessFlags := 26, slot := 0, constantValue := 0 }, { name := "REVERSE", type := .boolean, accessFlags := 26, slot := 1, constantValue := 0 }, { name := "archivedObjects", type := (.array (.object "java/lang/Object")), accessFlags := 10, slot := 2, constantValue := 0 }, { name := "EMPTY", type := (.object "java/lang/Object"), accessFlags := 26, slot := 3, constantValue := 0 }, { name := "EMPTY_LIST", type := (.object "java/util/ImmutableCollections$ListN"), accessFlags := 24, slot := 4, constantValue := 0 }, { name := "EMPTY_LIST_NULLS", type := (.object "java/util/ImmutableCollections$ListN"), accessFlags := 24, slot := 5, constantValue := 0 }, { name := "EMPTY_SET", type := (.object "java/util/ImmutableCollections$SetN"), accessFlags := 24, slot := 6, constantValue := 0 }, { name := "EMPTY_MAP", type := (.object "java/util/ImmutableCollections$MapN"), accessFlags := 24, slot := 7, constantValue := 0 }, { name := "EXPAND_FACTOR", type := .int, accessFlags := 24, slot := 8, constantValue := 0 }, { name := "$assertionsDisabled", type := .boolean, accessFlags := 4120, slot := 9, constantValue := 0 }]
  methods := #[k20m0, k20m1]
  instanceTypes := #[]
  staticTypes := #[.long, .boolean, (.array (.object "java/lang/Object")), (.object "java/lang/Object"), (.object "java/util/ImmutableCollections$ListN"), (.object "java/util/ImmutableCollections$ListN"), (.object "java/util/ImmutableCollections$SetN"), (.object "java/util/ImmutableCollections$MapN"), .int, .boolean]
  resolved := Array.replicate 213 none
  statics := some 2 }

def pool21 : Array CpInfo := pool [(1, .methodref 2 3), (0, .class_ 4), (0, .nameAndType 5 6), (0, u "java/util/AbstractCollection"), (0, u "<init>"), (0, u "()V"), (1, .class_ 10), (1, u "java/util/ImmutableCollections"), (2, .class_ 14), (0, u "java/util/ImmutableCollections$AbstractImmutableCollection")] 41

def k21c0 : Code := { maxStack := 1, maxLocals := 1, code := jdk_47_method_1_code, exceptionTable := #[], attributes := #[] }
def k21m0 : Method := { name := "<init>", desc := "()V", sig := { parameters := [], returnType := none }, accessFlags := 0, code := some k21c0 }
/-- java/util/ImmutableCollections$AbstractImmutableCollection -/
def k21 : Class := { plain "java/util/ImmutableCollections$AbstractImmutableCollection" (some 12) with
  accessFlags := 1056
  interfaces := #[]
  cf := some (fileOf pool21 13 #[.nestHost 8] #[{ accessFlags := 0, nameIndex := 5, descriptorIndex := 6, attributes := #[] }] 1056 2 #[] #[])
  fields := #[]
  methods := #[k21m0]
  instanceTypes := #[]
  staticTypes := #[]
  resolved := Array.replicate 56 none
  statics := none }

def pool22 : Array CpInfo := pool [(1, .methodref 2 3), (0, .class_ 4), (0, .nameAndType 5 6), (0, u "java/util/ImmutableCollections$AbstractImmutableCollection"), (0, u "<init>"), (0, u "()V"), (1, .class_ 10), (1, u "java/util/ImmutableCollections"), (3, .class_ 16), (1, u "java/util/ImmutableCollections$AbstractImmutableList"), (60, .class_ 78), (0, u "java/util/List"), (45, .class_ 125), (0, u "java/util/RandomAccess")] 70

def k22c0 : Code := { maxStack := 1, maxLocals := 1, code := jdk_46_method_1_code, exceptionTable := #[], attributes := #[] }
def k22m0 : Method := { name := "<init>", desc := "()V", sig := { parameters := [], returnType := none }, accessFlags := 0, code := some k22c0 }
/-- java/util/ImmutableCollections$AbstractImmutableList -/
def k22 : Class := { plain "java/util/ImmutableCollections$AbstractImmutableList" (some 21) with
  accessFlags := 1056
  interfaces := #[14, 16]
  cf := some (fileOf pool22 14 #[.nestHost 8] #[{ accessFlags := 0, nameIndex := 5, descriptorIndex := 6, attributes := #[] }] 1056 2 #[77, 124] #[])
  fields := #[]
  methods := #[k22m0]
  instanceTypes := #[]
  staticTypes := #[]
  resolved := Array.replicate 196 none
  statics := none }

def pool23 : Array CpInfo := pool [(1, .methodref 2 3), (0, .class_ 4), (0, .nameAndType 5 6), (0, u "java/util/ImmutableCollections$AbstractImmutableList"), (0, u "<init>"), (0, u "()V"), (0, .methodref 8 9), (0, .class_ 10), (0, .nameAndType 11 12), (0, u "java/util/Objects"), (0, u "requireNonNull"), (0, u "(Ljava/lang/Object;)Ljava/lang/Object;"), (0, .fieldref 14 15), (0, .class_ 16), (0, .nameAndType 17 18), (0, u "java/util/ImmutableCollections$List12"), (0, u "e0"), (0, u "Ljava/lang/Object;"), (0, .fieldref 20 21), (0, .class_ 22), (0, .nameAndType 23 18), (0, u "java/util/ImmutableCollections"), (0, u "EMPTY"), (0, .fieldref 14 25), (0, .nameAndType 26 18), (0, u "e1"), (24, u "size"), (0, u "()I"), (17, .class_ 71), (0, u "java/io/Serializable"), (4, u "(Ljava/lang/Object;)V"), (8, u "(Ljava/lang/Object;Ljava/lang/Object;)V"), (4, u "get"), (0, u "(I)Ljava/lang/Object;")] 33

def k23c0 : Code := { maxStack := 2, maxLocals := 2, code := jdk_44_method_1_code, exceptionTable := #[], attributes := #[] }
def k23m0 : Method := { name := "<init>", desc := "(Ljava/lang/Object;)V", sig := { parameters := [(.object "java/lang/Object")], returnType := none }, accessFlags := 0, code := some k23c0 }
def k23c1 : Code := { maxStack := 2, maxLocals := 3, code := jdk_44_method_2_code, exceptionTable := #[], attributes := #[] }
def k23m1 : Method := { name := "<init>", desc := "(Ljava/lang/Object;Ljava/lang/Object;)V", sig := { parameters := [(.object "java/lang/Object"), (.object "java/lang/Object")], returnType := none }, accessFlags := 0, code := some k23c1 }
def k23c2 : Code := { maxStack := 2, maxLocals := 1, code := jdk_44_method_3_code, exceptionTable := #[], attributes := #[] }
def k23m2 : Method := { name := "size", desc := "()I", sig := { parameters := [], returnType := some .int }, accessFlags := 1, code := some k23c2 }
def k23c3 : Code := { maxStack := 2, maxLocals := 2, code := jdk_44_method_5_code, exceptionTable := #[], attributes := #[] }
def k23m3 : Method := { name := "get", desc := "(I)Ljava/lang/Object;", sig := { parameters := [.int], returnType := some (.object "java/lang/Object") }, accessFlags := 1, code := some k23c3 }
/-- java/util/ImmutableCollections$List12 -/
def k23 : Class := { plain "java/util/ImmutableCollections$List12" (some 22) with
  accessFlags := 48
  interfaces := #[2]
  cf := some (fileOf pool23 14 #[.nestHost 20] #[{ accessFlags := 0, nameIndex := 5, descriptorIndex := 76, attributes := #[] }, { accessFlags := 0, nameIndex := 5, descriptorIndex := 85, attributes := #[] }, { accessFlags := 1, nameIndex := 51, descriptorIndex := 52, attributes := #[] }, { accessFlags := 1, nameIndex := 90, descriptorIndex := 91, attributes := #[] }] 48 2 #[70] #[{ accessFlags := 18, nameIndex := 17, descriptorIndex := 18, attributes := #[] }, { accessFlags := 18, nameIndex := 26, descriptorIndex := 18, attributes := #[] }])
  fields := #[{ name := "e0", type := (.object "java/lang/Object"), accessFlags := 18, slot := 0, constantValue := 0 }, { name := "e1", type := (.object "java/lang/Object"), accessFlags := 18, slot := 1, constantValue := 0 }]
  methods := #[k23m0, k23m1, k23m2, k23m3]
  instanceTypes := #[(.object "java/lang/Object"), (.object "java/lang/Object")]
  staticTypes := #[]
  resolved := Array.replicate 125 none
  statics := none }

def pool24 : Array CpInfo := pool [(2, .class_ 4), (1, u "java/util/ImmutableCollections$AbstractImmutableList"), (2, .fieldref 8 9), (0, .class_ 10), (0, .nameAndType 11 12), (0, u "java/util/ImmutableCollections$ListN"), (0, u "elements"), (0, u "[Ljava/lang/Object;"), (2, u "allowNulls"), (0, u "Z"), (42, .class_ 60), (0, u "java/io/Serializable"), (16, u "size"), (0, u "()I"), (35, .class_ 115), (0, u "java/util/ImmutableCollections")] 3

def k24c0 : Code := { maxStack := 1, maxLocals := 1, code := jdk_45_method_3_code, exceptionTable := #[], attributes := #[] }
def k24m0 : Method := { name := "size", desc := "()I", sig := { parameters := [], returnType := some .int }, accessFlags := 1, code := some k24c0 }
/-- java/util/ImmutableCollections$ListN -/
def k24 : Class := { plain "java/util/ImmutableCollections$ListN" (some 22) with
  accessFlags := 48
  interfaces := #[2]
  cf := some (fileOf pool24 8 #[.nestHost 114] #[{ accessFlags := 1, nameIndex := 77, descriptorIndex := 78, attributes := #[] }] 48 2 #[59] #[{ accessFlags := 18, nameIndex := 11, descriptorIndex := 12, attributes := #[] }, { accessFlags := 18, nameIndex := 15, descriptorIndex := 16, attributes := #[] }])
  fields := #[{ name := "elements", type := (.array (.object "java/lang/Object")), accessFlags := 18, slot := 0, constantValue := 0 }, { name := "allowNulls", type := .boolean, accessFlags := 18, slot := 1, constantValue := 0 }]
  methods := #[k24m0]
  instanceTypes := #[(.array (.object "java/lang/Object")), .boolean]
  staticTypes := #[]
  resolved := Array.replicate 119 none
  statics := none }

def pool25 : Array CpInfo := pool [(1, .methodref 2 3), (0, .class_ 4), (0, .nameAndType 5 6), (0, u "java/lang/Record"), (0, u "<init>"), (0, u "()V"), (0, .fieldref 8 9), (0, .class_ 10), (0, .nameAndType 11 12), (0, u "com/example/quaymark/quaymark/Review$Withdrawal"), (0, u "reason"), (0, u "Ljava/lang/String;"), (0, .fieldref 8 14), (0, .nameAndType 15 12), (0, u "by"), (12, u "(Ljava/lang/String;Ljava/lang/String;)V"), (9, .class_ 39), (0, u "com/example/quaymark/quaymark/Review")] 20

def k25c0 : Code := { maxStack := 2, maxLocals := 3, code := prog_25_method_1_code, exceptionTable := #[], attributes := #[] }
def k25m0 : Method := { name := "<init>", desc := "(Ljava/lang/String;Ljava/lang/String;)V", sig := { parameters := [(.object "java/lang/String"), (.object "java/lang/String")], returnType := none }, accessFlags := 0, code := some k25c0 }
/-- com/example/quaymark/quaymark/Review$Withdrawal -/
def k25 : Class := { plain "com/example/quaymark/quaymark/Review$Withdrawal" (some 8) with
  accessFlags := 48
  interfaces := #[]
  cf := some (fileOf pool25 8 #[.nestHost 38] #[{ accessFlags := 0, nameIndex := 5, descriptorIndex := 28, attributes := #[] }] 48 2 #[] #[{ accessFlags := 18, nameIndex := 11, descriptorIndex := 12, attributes := #[] }, { accessFlags := 18, nameIndex := 15, descriptorIndex := 12, attributes := #[] }])
  fields := #[{ name := "reason", type := (.object "java/lang/String"), accessFlags := 18, slot := 0, constantValue := 0 }, { name := "by", type := (.object "java/lang/String"), accessFlags := 18, slot := 1, constantValue := 0 }]
  methods := #[k25m0]
  instanceTypes := #[(.object "java/lang/String"), (.object "java/lang/String")]
  staticTypes := #[]
  resolved := Array.replicate 60 none
  statics := none }

def pool26 : Array CpInfo := pool [(1, .class_ 2), (0, u "java/lang/Math"), (1, .class_ 6), (1, u "java/lang/Object"), (0, u "<init>"), (0, u "()V"), (89, .class_ 100), (1, u "java/lang/Math$RandomNumberGeneratorHolder"), (71, u "negativeZeroFloatBits"), (0, u "J"), (2, u "negativeZeroDoubleBits"), (21, u "max"), (2, u "min"), (43, u "$assertionsDisabled"), (0, u "Z"), (88, u "(II)I"), (2, u "twoToTheDoubleScaleDown"), (0, u "D"), (4, u "twoToTheDoubleScaleUp"), (9, u "E"), (3, u "PI"), (2, u "TAU"), (2, u "DEGREES_TO_RADIANS"), (0, u "RADIANS_TO_DEGREES")] 94

def k26m0 : Method := { name := "<init>", desc := "()V", sig := { parameters := [], returnType := none }, accessFlags := 2, code := none }
def k26c1 : Code := { maxStack := 2, maxLocals := 2, code := jdk_29_method_65_code, exceptionTable := #[], attributes := #[] }
def k26m1 : Method := { name := "max", desc := "(II)I", sig := { parameters := [.int, .int], returnType := some .int }, accessFlags := 9, code := some k26c1 }
def k26c2 : Code := { maxStack := 2, maxLocals := 2, code := jdk_29_method_69_code, exceptionTable := #[], attributes := #[] }
def k26m2 : Method := { name := "min", desc := "(II)I", sig := { parameters := [.int, .int], returnType := some .int }, accessFlags := 9, code := some k26c2 }
/-- java/lang/Math -/
def k26 : Class := { plain "java/lang/Math" (some 0) with
  accessFlags := 49
  interfaces := #[]
  cf := some (fileOf pool26 1 #[.nestMembers #[98]] #[{ accessFlags := 2, nameIndex := 7, descriptorIndex := 8, attributes := #[] }, { accessFlags := 9, nameIndex := 198, descriptorIndex := 335, attributes := #[] }, { accessFlags := 9, nameIndex := 201, descriptorIndex := 335, attributes := #[] }] 49 4 #[] #[{ accessFlags := 25, nameIndex := 354, descriptorIndex := 339, attributes := #[] }, { accessFlags := 25, nameIndex := 358, descriptorIndex := 339, attributes := #[] }, { accessFlags := 25, nameIndex := 361, descriptorIndex := 339, attributes := #[] }, { accessFlags := 26, nameIndex := 364, descriptorIndex := 339, attributes := #[] }, { accessFlags := 26, nameIndex := 365, descriptorIndex := 339, attributes := #[] }, { accessFlags := 26, nameIndex := 172, descriptorIndex := 173, attributes := #[] }, { accessFlags := 26, nameIndex := 176, descriptorIndex := 173, attributes := #[] }, { accessFlags := 8, nameIndex := 344, descriptorIndex := 339, attributes := #[] }, { accessFlags := 8, nameIndex := 338, descriptorIndex := 339, attributes := #[] }, { accessFlags := 4120, nameIndex := 245, descriptorIndex := 246, attributes := #[] }])
  fields := #[{ name := "E", type := .double, accessFlags := 25, slot := 0, constantValue := 0 }, { name := "PI", type := .double, accessFlags := 25, slot := 1, constantValue := 0 }, { name := "TAU", type := .double, accessFlags := 25, slot := 2, constantValue := 0 }, { name := "DEGREES_TO_RADIANS", type := .double, accessFlags := 26, slot := 3, constantValue := 0 }, { name := "RADIANS_TO_DEGREES", type := .double, accessFlags := 26, slot := 4, constantValue := 0 }, { name := "negativeZeroFloatBits", type := .long, accessFlags := 26, slot := 5, constantValue := 0 }, { name := "negativeZeroDoubleBits", type := .long, accessFlags := 26, slot := 6, constantValue := 0 }, { name := "twoToTheDoubleScaleUp", type := .double, accessFlags := 8, slot := 7, constantValue := 0 }, { name := "twoToTheDoubleScaleDown", type := .double, accessFlags := 8, slot := 8, constantValue := 0 }, { name := "$assertionsDisabled", type := .boolean, accessFlags := 4120, slot := 9, constantValue := 0 }]
  methods := #[k26m0, k26m1, k26m2]
  instanceTypes := #[]
  staticTypes := #[.double, .double, .double, .double, .double, .long, .long, .double, .double, .boolean]
  resolved := Array.replicate 460 none
  statics := none }

def pool27 : Array CpInfo := pool [(2, .class_ 4), (1, u "java/lang/Object"), (0, u "<init>"), (0, u "()V"), (7, .class_ 16), (1, u "java/util/Arrays"), (57, .class_ 76), (1, u "java/util/Arrays$NaturalOrder"), (9, .methodref 2 87), (0, .nameAndType 88 89), (0, u "getClass"), (0, u "()Ljava/lang/Class;"), (20, .class_ 111), (0, u "[Ljava/lang/Object;"), (1, .class_ 115), (1, u "java/util/Arrays$LegacyMergeSort"), (1, u "Z"), (32, .methodref 151 152), (0, .class_ 153), (0, .nameAndType 154 155), (0, u "java/lang/System"), (0, u "arraycopy"), (0, u "(Ljava/lang/Object;ILjava/lang/Object;II)V"), (144, .methodref 14 301), (0, .nameAndType 302 303), (0, u "copyOf"), (0, u "([Ljava/lang/Object;ILjava/lang/Class;)[Ljava/lang/Object;"), (0, .methodref 305 306), (0, .class_ 307), (0, .nameAndType 308 309), (0, u "java/lang/Math"), (0, u "min"), (0, u "(II)I"), (65, .class_ 376), (0, u "java/util/Arrays$ArrayList"), (68, u "$assertionsDisabled"), (269, u "MIN_ARRAY_SORT_GRAN"), (0, u "I"), (2, u "INSERTIONSORT_THRESHOLD"), (140, u "([Ljava/lang/Object;I)[Ljava/lang/Object;"), (114, .class_ 976), (0, u "java/util/Arrays$ArrayItr")] 52

def k27m0 : Method := { name := "<init>", desc := "()V", sig := { parameters := [], returnType := none }, accessFlags := 2, code := none }
def k27c1 : Code := { maxStack := 3, maxLocals := 2, code := jdk_65_method_119_code, exceptionTable := #[], attributes := #[] }
def k27m1 : Method := { name := "copyOf", desc := "([Ljava/lang/Object;I)[Ljava/lang/Object;", sig := { parameters := [(.array (.object "java/lang/Object")), .int], returnType := some (.array (.object "java/lang/Object")) }, accessFlags := 9, code := some k27c1 }
def k27c2 : Code := { maxStack := 6, maxLocals := 4, code := jdk_65_method_120_code, exceptionTable := #[], attributes := #[] }
def k27m2 : Method := { name := "copyOf", desc := "([Ljava/lang/Object;ILjava/lang/Class;)[Ljava/lang/Object;", sig := { parameters := [(.array (.object "java/lang/Object")), .int, (.object "java/lang/Class")], returnType := some (.array (.object "java/lang/Object")) }, accessFlags := 9, code := some k27c2 }
/-- java/util/Arrays -/
def k27 : Class := { plain "java/util/Arrays" (some 0) with
  accessFlags := 49
  interfaces := #[]
  cf := some (fileOf pool27 14 #[.nestMembers #[975, 375, 113, 74]] #[{ accessFlags := 2, nameIndex := 5, descriptorIndex := 6, attributes := #[] }, { accessFlags := 9, nameIndex := 302, descriptorIndex := 860, attributes := #[] }, { accessFlags := 9, nameIndex := 302, descriptorIndex := 303, attributes := #[] }] 49 2 #[] #[{ accessFlags := 26, nameIndex := 715, descriptorIndex := 716, attributes := #[] }, { accessFlags := 26, nameIndex := 719, descriptorIndex := 716, attributes := #[] }, { accessFlags := 4120, nameIndex := 445, descriptorIndex := 117, attributes := #[] }])
  fields := #[{ name := "MIN_ARRAY_SORT_GRAN", type := .int, accessFlags := 26, slot := 0, constantValue := 0 }, { name := "INSERTIONSORT_THRESHOLD", type := .int, accessFlags := 26, slot := 1, constantValue := 0 }, { name := "$assertionsDisabled", type := .boolean, accessFlags := 4120, slot := 2, constantValue := 0 }]
  methods := #[k27m0, k27m1, k27m2]
  instanceTypes := #[]
  staticTypes := #[.int, .int, .boolean]
  resolved := Array.replicate 1029 none
  statics := none }

def pool28 : Array CpInfo := pool [(2, .class_ 4), (1, u "java/lang/Object"), (0, u "<init>"), (0, u "()V"), (1, .class_ 10), (1, u "java/lang/System"), (0, u "allowSecurityManager"), (0, u "I"), (16, u "cons"), (0, u "Ljava/io/Console;"), (77, .class_ 110), (1, u "java/lang/System$CallersHolder"), (43, u "initialErrStream"), (0, u "Ljava/io/PrintStream;"), (19, u "security"), (0, u "Ljava/lang/SecurityManager;"), (31, .class_ 209), (0, u "java/lang/System$1"), (7, u "props"), (0, u "Ljava/util/Properties;"), (2, u "lineSeparator"), (0, u "Ljava/lang/String;"), (96, .class_ 321), (1, u "java/lang/System$LoggerFinder"), (5, .class_ 328), (0, u "java/lang/System$Logger"), (67, u "err"), (2, u "out"), (91, u "notSupportedJnuEncoding"), (15, u "in"), (17, u "initialIn"), (0, u "Ljava/io/InputStream;"), (35, u "bootLayer"), (0, u "Ljava/lang/ModuleLayer;"), (99, .class_ 664), (0, u "java/lang/System$2"), (9, u "NEVER"), (2, u "MAYBE"), (49, u "arraycopy"), (0, u "(Ljava/lang/Object;ILjava/lang/Object;II)V"), (72, .class_ 802), (0, u "java/lang/System$Logger$Level")] 31

def k28m0 : Method := { name := "<init>", desc := "()V", sig := { parameters := [], returnType := none }, accessFlags := 2, code := none }
def k28m1 : Method := { name := "arraycopy", desc := "(Ljava/lang/Object;ILjava/lang/Object;II)V", sig := { parameters := [(.object "java/lang/Object"), .int, (.object "java/lang/Object"), .int, .int], returnType := none }, accessFlags := 265, code := none }
/-- java/lang/System -/
def k28 : Class := { plain "java/lang/System" (some 0) with
  accessFlags := 49
  interfaces := #[]
  cf := some (fileOf pool28 8 #[.nestMembers #[319, 327, 801, 108, 663, 208]] #[{ accessFlags := 2, nameIndex := 5, descriptorIndex := 6, attributes := #[] }, { accessFlags := 265, nameIndex := 727, descriptorIndex := 728, attributes := #[] }] 49 2 #[] #[{ accessFlags := 25, nameIndex := 507, descriptorIndex := 526, attributes := #[] }, { accessFlags := 25, nameIndex := 399, descriptorIndex := 155, attributes := #[] }, { accessFlags := 25, nameIndex := 396, descriptorIndex := 155, attributes := #[] }, { accessFlags := 10, nameIndex := 525, descriptorIndex := 526, attributes := #[] }, { accessFlags := 26, nameIndex := 674, descriptorIndex := 12, attributes := #[] }, { accessFlags := 26, nameIndex := 677, descriptorIndex := 12, attributes := #[] }, { accessFlags := 10, nameIndex := 11, descriptorIndex := 12, attributes := #[] }, { accessFlags := 74, nameIndex := 175, descriptorIndex := 176, attributes := #[] }, { accessFlags := 10, nameIndex := 491, descriptorIndex := 222, attributes := #[] }, { accessFlags := 74, nameIndex := 29, descriptorIndex := 30, attributes := #[] }, { accessFlags := 74, nameIndex := 154, descriptorIndex := 155, attributes := #[] }, { accessFlags := 10, nameIndex := 217, descriptorIndex := 218, attributes := #[] }, { accessFlags := 10, nameIndex := 221, descriptorIndex := 222, attributes := #[] }, { accessFlags := 8, nameIndex := 562, descriptorIndex := 563, attributes := #[] }])
  fields := #[{ name := "in", type := (.object "java/io/InputStream"), accessFlags := 25, slot := 0, constantValue := 0 }, { name := "out", type := (.object "java/io/PrintStream"), accessFlags := 25, slot := 1, constantValue := 0 }, { name := "err", type := (.object "java/io/PrintStream"), accessFlags := 25, slot := 2, constantValue := 0 }, { name := "initialIn", type := (.object "java/io/InputStream"), accessFlags := 10, slot := 3, constantValue := 0 }, { name := "NEVER", type := .int, accessFlags := 26, slot := 4, constantValue := 0 }, { name := "MAYBE", type := .int, accessFlags := 26, slot := 5, constantValue := 0 }, { name := "allowSecurityManager", type := .int, accessFlags := 10, slot := 6, constantValue := 0 }, { name := "security", type := (.object "java/lang/SecurityManager"), accessFlags := 74, slot := 7, constantValue := 0 }, { name := "notSupportedJnuEncoding", type := (.object "java/lang/String"), accessFlags := 10, slot := 8, constantValue := 0 }, { name := "cons", type := (.object "java/io/Console"), accessFlags := 74, slot := 9, constantValue := 0 }, { name := "initialErrStream", type := (.object "java/io/PrintStream"), accessFlags := 74, slot := 10, constantValue := 0 }, { name := "props", type := (.object "java/util/Properties"), accessFlags := 10, slot := 11, constantValue := 0 }, { name := "lineSeparator", type := (.object "java/lang/String"), accessFlags := 10, slot := 12, constantValue := 0 }, { name := "bootLayer", type := (.object "java/lang/ModuleLayer"), accessFlags := 8, slot := 13, constantValue := 0 }]
  methods := #[k28m0, k28m1]
  instanceTypes := #[]
  staticTypes := #[(.object "java/io/InputStream"), (.object "java/io/PrintStream"), (.object "java/io/PrintStream"), (.object "java/io/InputStream"), .int, .int, .int, (.object "java/lang/SecurityManager"), (.object "java/lang/String"), (.object "java/io/Console"), (.object "java/io/PrintStream"), (.object "java/util/Properties"), (.object "java/lang/String"), (.object "java/lang/ModuleLayer")]
  resolved := Array.replicate 834 none
  statics := none }

def pool29 : Array CpInfo := pool [(2, .class_ 4), (1, u "java/lang/Object"), (0, u "<init>"), (0, u "()V"), (35, .class_ 44), (1, u "java/util/Objects"), (0, u "requireNonNull"), (0, u "(Ljava/lang/Object;)Ljava/lang/Object;")] 137

def k29m0 : Method := { name := "<init>", desc := "()V", sig := { parameters := [], returnType := none }, accessFlags := 2, code := none }
def k29c1 : Code := { maxStack := 2, maxLocals := 1, code := jdk_31_method_10_code, exceptionTable := #[], attributes := #[] }
def k29m1 : Method := { name := "requireNonNull", desc := "(Ljava/lang/Object;)Ljava/lang/Object;", sig := { parameters := [(.object "java/lang/Object")], returnType := some (.object "java/lang/Object") }, accessFlags := 9, code := some k29c1 }
/-- java/util/Objects -/
def k29 : Class := { plain "java/util/Objects" (some 0) with
  accessFlags := 49
  interfaces := #[]
  cf := some (fileOf pool29 42 #[] #[{ accessFlags := 2, nameIndex := 5, descriptorIndex := 6, attributes := #[] }, { accessFlags := 9, nameIndex := 45, descriptorIndex := 46, attributes := #[] }] 49 2 #[] #[])
  fields := #[]
  methods := #[k29m0, k29m1]
  instanceTypes := #[]
  staticTypes := #[]
  resolved := Array.replicate 184 none
  statics := none }

def pool30 : Array CpInfo := pool [(4, .class_ 6), (1, u "java/lang/Object"), (0, u "<init>"), (0, u "()V"), (5, .class_ 16), (1, u "java/lang/StringLatin1"), (73, u "canEncode"), (14, u "(C)Z"), (15, u "$assertionsDisabled"), (0, u "Z"), (98, .class_ 223), (1, u "java/lang/StringLatin1$LinesSpliterator"), (156, u "toBytes"), (1, u "(C)[B"), (7, .class_ 391), (0, u "java/lang/StringLatin1$CharsSpliterator")] 3

def k30m0 : Method := { name := "<init>", desc := "()V", sig := { parameters := [], returnType := none }, accessFlags := 0, code := none }
def k30c1 : Code := { maxStack := 2, maxLocals := 1, code := jdk_43_method_3_code, exceptionTable := #[], attributes := #[] }
def k30m1 : Method := { name := "canEncode", desc := "(C)Z", sig := { parameters := [.char], returnType := some .boolean }, accessFlags := 9, code := some k30c1 }
def k30c2 : Code := { maxStack := 4, maxLocals := 1, code := jdk_43_method_46_code, exceptionTable := #[], attributes := #[] }
def k30m2 : Method := { name := "toBytes", desc := "(C)[B", sig := { parameters := [.char], returnType := some (.array .byte) }, accessFlags := 9, code := some k30c2 }
/-- java/lang/StringLatin1 -/
def k30 : Class := { plain "java/lang/StringLatin1" (some 0) with
  accessFlags := 48
  interfaces := #[]
  cf := some (fileOf pool30 14 #[.nestMembers #[390, 221]] #[{ accessFlags := 0, nameIndex := 7, descriptorIndex := 8, attributes := #[] }, { accessFlags := 9, nameIndex := 90, descriptorIndex := 105, attributes := #[] }, { accessFlags := 9, nameIndex := 380, descriptorIndex := 382, attributes := #[] }] 48 4 #[] #[{ accessFlags := 4120, nameIndex := 121, descriptorIndex := 122, attributes := #[] }])
  fields := #[{ name := "$assertionsDisabled", type := .boolean, accessFlags := 4120, slot := 0, constantValue := 0 }]
  methods := #[k30m0, k30m1, k30m2]
  instanceTypes := #[]
  staticTypes := #[.boolean]
  resolved := Array.replicate 395 none
  statics := none }

def pool31 : Array CpInfo := pool [(6, .class_ 8), (1, u "java/lang/Object"), (0, u "<init>"), (0, u "()V"), (1, .class_ 14), (1, u "java/lang/StringUTF16"), (31, u "$assertionsDisabled"), (0, u "Z"), (13, u "HI_BYTE_SHIFT"), (0, u "I"), (2, u "LO_BYTE_SHIFT"), (49, .methodref 12 116), (0, .nameAndType 117 118), (0, u "compress"), (0, u "([CI[BII)I"), (3, u "([CII)[B"), (138, u "coderFromArrayLen"), (0, u "([BI)B"), (106, .class_ 371), (1, u "java/lang/StringUTF16$LinesSpliterator"), (58, u "MAX_LENGTH"), (196, .class_ 628), (0, u "java/lang/StringUTF16$CodePointsSpliterator"), (0, .class_ 630), (0, u "java/lang/StringUTF16$CharsSpliterator")] 4

def k31m0 : Method := { name := "<init>", desc := "()V", sig := { parameters := [], returnType := none }, accessFlags := 0, code := none }
def k31c1 : Code := { maxStack := 2, maxLocals := 2, code := jdk_52_method_15_code, exceptionTable := #[], attributes := #[] }
def k31m1 : Method := { name := "coderFromArrayLen", desc := "([BI)B", sig := { parameters := [(.array .byte), .int], returnType := some .byte }, accessFlags := 8, code := some k31c1 }
def k31c2 : Code := { maxStack := 5, maxLocals := 6, code := jdk_52_method_16_code, exceptionTable := #[], attributes := #[] }
def k31m2 : Method := { name := "compress", desc := "([CII)[B", sig := { parameters := [(.array .char), .int, .int], returnType := some (.array .byte) }, accessFlags := 9, code := some k31c2 }
def k31c3 : Code := { maxStack := 3, maxLocals := 7, code := jdk_52_method_21_code, exceptionTable := #[], attributes := #[] }
def k31m3 : Method := { name := "compress", desc := "([CI[BII)I", sig := { parameters := [(.array .char), .int, (.array .byte), .int, .int], returnType := some .int }, accessFlags := 9, code := some k31c3 }
/-- java/lang/StringUTF16 -/
def k31 : Class := { plain "java/lang/StringUTF16" (some 0) with
  accessFlags := 48
  interfaces := #[]
  cf := some (fileOf pool31 12 #[.nestMembers #[627, 629, 369]] #[{ accessFlags := 0, nameIndex := 9, descriptorIndex := 10, attributes := #[] }, { accessFlags := 8, nameIndex := 261, descriptorIndex := 262, attributes := #[] }, { accessFlags := 9, nameIndex := 117, descriptorIndex := 122, attributes := #[] }, { accessFlags := 9, nameIndex := 117, descriptorIndex := 118, attributes := #[] }] 48 6 #[] #[{ accessFlags := 26, nameIndex := 61, descriptorIndex := 62, attributes := #[] }, { accessFlags := 26, nameIndex := 65, descriptorIndex := 62, attributes := #[] }, { accessFlags := 24, nameIndex := 430, descriptorIndex := 62, attributes := #[] }, { accessFlags := 4120, nameIndex := 46, descriptorIndex := 47, attributes := #[] }])
  fields := #[{ name := "HI_BYTE_SHIFT", type := .int, accessFlags := 26, slot := 0, constantValue := 0 }, { name := "LO_BYTE_SHIFT", type := .int, accessFlags := 26, slot := 1, constantValue := 0 }, { name := "MAX_LENGTH", type := .int, accessFlags := 24, slot := 2, constantValue := 0 }, { name := "$assertionsDisabled", type := .boolean, accessFlags := 4120, slot := 3, constantValue := 0 }]
  methods := #[k31m0, k31m1, k31m2, k31m3]
  instanceTypes := #[]
  staticTypes := #[.int, .int, .int, .boolean]
  resolved := Array.replicate 635 none
  statics := none }

def pool32 : Array CpInfo := pool [(2, .class_ 4), (1, u "java/lang/Object"), (0, u "<init>"), (0, u "()V"), (17, .class_ 26), (1, u "jdk/internal/util/Preconditions"), (28, .class_ 56), (0, u "jdk/internal/util/Preconditions$4"), (57, .class_ 115), (0, u "jdk/internal/util/Preconditions$1"), (7, u "SIOOBE_FORMATTER"), (0, u "Ljava/util/function/BiFunction;"), (0, .class_ 126), (0, u "jdk/internal/util/Preconditions$2"), (3, u "AIOOBE_FORMATTER"), (0, .class_ 132), (0, u "jdk/internal/util/Preconditions$3"), (3, u "IOOBE_FORMATTER")] 57

def k32m0 : Method := { name := "<init>", desc := "()V", sig := { parameters := [], returnType := none }, accessFlags := 1, code := none }
/-- jdk/internal/util/Preconditions -/
def k32 : Class := { plain "jdk/internal/util/Preconditions" (some 0) with
  accessFlags := 33
  interfaces := #[]
  cf := some (fileOf pool32 24 #[.nestMembers #[55, 131, 125, 114]] #[{ accessFlags := 1, nameIndex := 5, descriptorIndex := 6, attributes := #[] }] 33 2 #[] #[{ accessFlags := 25, nameIndex := 123, descriptorIndex := 124, attributes := #[] }, { accessFlags := 25, nameIndex := 130, descriptorIndex := 124, attributes := #[] }, { accessFlags := 25, nameIndex := 136, descriptorIndex := 124, attributes := #[] }])
  fields := #[{ name := "SIOOBE_FORMATTER", type := (.object "java/util/function/BiFunction"), accessFlags := 25, slot := 0, constantValue := 0 }, { name := "AIOOBE_FORMATTER", type := (.object "java/util/function/BiFunction"), accessFlags := 25, slot := 1, constantValue := 0 }, { name := "IOOBE_FORMATTER", type := (.object "java/util/function/BiFunction"), accessFlags := 25, slot := 2, constantValue := 0 }]
  methods := #[k32m0]
  instanceTypes := #[]
  staticTypes := #[(.object "java/util/function/BiFunction"), (.object "java/util/function/BiFunction"), (.object "java/util/function/BiFunction")]
  resolved := Array.replicate 194 none
  statics := some 3 }

def pool33 : Array CpInfo := pool [(9, u "<init>"), (6, .class_ 18), (1, u "java/lang/Object"), (0, u "()V"), (1, .class_ 23), (1, u "jdk/internal/util/ArraysSupport"), (0, u "LOG2_ARRAY_LONG_INDEX_SCALE"), (0, u "I"), (2, u "U"), (0, u "Ljdk/internal/misc/Unsafe;"), (8, u "BIG_ENDIAN"), (0, u "Z"), (8, u "LOG2_BYTE_BIT_SIZE"), (4, u "LOG2_ARRAY_INT_INDEX_SCALE"), (54, u "JLA"), (0, u "Ljdk/internal/access/JavaLangAccess;"), (11, u "LOG2_ARRAY_BOOLEAN_INDEX_SCALE"), (9, u "LOG2_ARRAY_BYTE_INDEX_SCALE"), (5, u "LOG2_ARRAY_CHAR_INDEX_SCALE"), (5, u "LOG2_ARRAY_SHORT_INDEX_SCALE"), (18, u "LOG2_ARRAY_FLOAT_INDEX_SCALE"), (24, u "LOG2_ARRAY_DOUBLE_INDEX_SCALE"), (89, u "T_BOOLEAN"), (2, u "T_CHAR"), (1, u "T_FLOAT"), (1, u "T_DOUBLE"), (1, u "T_BYTE"), (1, u "T_SHORT"), (1, u "T_INT"), (1, u "T_LONG"), (1, u "SOFT_MAX_ARRAY_LENGTH")] 83

def k33m0 : Method := { name := "<init>", desc := "()V", sig := { parameters := [], returnType := none }, accessFlags := 2, code := none }
/-- jdk/internal/util/ArraysSupport -/
def k33 : Class := { plain "jdk/internal/util/ArraysSupport" (some 0) with
  accessFlags := 33
  interfaces := #[]
  cf := some (fileOf pool33 21 #[] #[{ accessFlags := 2, nameIndex := 9, descriptorIndex := 19, attributes := #[] }] 33 16 #[] #[{ accessFlags := 24, nameIndex := 28, descriptorIndex := 29, attributes := #[] }, { accessFlags := 26, nameIndex := 38, descriptorIndex := 39, attributes := #[] }, { accessFlags := 25, nameIndex := 121, descriptorIndex := 25, attributes := #[] }, { accessFlags := 25, nameIndex := 131, descriptorIndex := 25, attributes := #[] }, { accessFlags := 25, nameIndex := 137, descriptorIndex := 25, attributes := #[] }, { accessFlags := 25, nameIndex := 143, descriptorIndex := 25, attributes := #[] }, { accessFlags := 25, nameIndex := 53, descriptorIndex := 25, attributes := #[] }, { accessFlags := 25, nameIndex := 24, descriptorIndex := 25, attributes := #[] }, { accessFlags := 25, nameIndex := 162, descriptorIndex := 25, attributes := #[] }, { accessFlags := 25, nameIndex := 187, descriptorIndex := 25, attributes := #[] }, { accessFlags := 26, nameIndex := 48, descriptorIndex := 25, attributes := #[] }, { accessFlags := 25, nameIndex := 277, descriptorIndex := 25, attributes := #[] }, { accessFlags := 25, nameIndex := 280, descriptorIndex := 25, attributes := #[] }, { accessFlags := 25, nameIndex := 282, descriptorIndex := 25, attributes := #[] }, { accessFlags := 25, nameIndex := 284, descriptorIndex := 25, attributes := #[] }, { accessFlags := 25, nameIndex := 286, descriptorIndex := 25, attributes := #[] }, { accessFlags := 25, nameIndex := 288, descriptorIndex := 25, attributes := #[] }, { accessFlags := 25, nameIndex := 290, descriptorIndex := 25, attributes := #[] }, { accessFlags := 25, nameIndex := 292, descriptorIndex := 25, attributes := #[] }, { accessFlags := 26, nameIndex := 108, descriptorIndex := 109, attributes := #[] }, { accessFlags := 25, nameIndex := 294, descriptorIndex := 25, attributes := #[] }])
  fields := #[{ name := "U", type := (.object "jdk/internal/misc/Unsafe"), accessFlags := 24, slot := 0, constantValue := 0 }, { name := "BIG_ENDIAN", type := .boolean, accessFlags := 26, slot := 1, constantValue := 0 }, { name := "LOG2_ARRAY_BOOLEAN_INDEX_SCALE", type := .int, accessFlags := 25, slot := 2, constantValue := 0 }, { name := "LOG2_ARRAY_BYTE_INDEX_SCALE", type := .int, accessFlags := 25, slot := 3, constantValue := 0 }, { name := "LOG2_ARRAY_CHAR_INDEX_SCALE", type := .int, accessFlags := 25, slot := 4, constantValue := 0 }, { name := "LOG2_ARRAY_SHORT_INDEX_SCALE", type := .int, accessFlags := 25, slot := 5, constantValue := 0 }, { name := "LOG2_ARRAY_INT_INDEX_SCALE", type := .int, accessFlags := 25, slot := 6, constantValue := 0 }, { name := "LOG2_ARRAY_LONG_INDEX_SCALE", type := .int, accessFlags := 25, slot := 7, constantValue := 0 }, { name := "LOG2_ARRAY_FLOAT_INDEX_SCALE", type := .int, accessFlags := 25, slot := 8, constantValue := 0 }, { name := "LOG2_ARRAY_DOUBLE_INDEX_SCALE", type := .int, accessFlags := 25, slot := 9, constantValue := 0 }, { name := "LOG2_BYTE_BIT_SIZE", type := .int, accessFlags := 26, slot := 10, constantValue := 0 }, { name := "T_BOOLEAN", type := .int, accessFlags := 25, slot := 11, constantValue := 0 }, { name := "T_CHAR", type := .int, accessFlags := 25, slot := 12, constantValue := 0 }, { name := "T_FLOAT", type := .int, accessFlags := 25, slot := 13, constantValue := 0 }, { name := "T_DOUBLE", type := .int, accessFlags := 25, slot := 14, constantValue := 0 }, { name := "T_BYTE", type := .int, accessFlags := 25, slot := 15, constantValue := 0 }, { name := "T_SHORT", type := .int, accessFlags := 25, slot := 16, constantValue := 0 }, { name := "T_INT", type := .int, accessFlags := 25, slot := 17, constantValue := 0 }, { name := "T_LONG", type := .int, accessFlags := 25, slot := 18, constantValue := 0 }, { name := "JLA", type := (.object "jdk/internal/access/JavaLangAccess"), accessFlags := 26, slot := 19, constantValue := 0 }, { name := "SOFT_MAX_ARRAY_LENGTH", type := .int, accessFlags := 25, slot := 20, constantValue := 0 }]
  methods := #[k33m0]
  instanceTypes := #[]
  staticTypes := #[(.object "jdk/internal/misc/Unsafe"), .boolean, .int, .int, .int, .int, .int, .int, .int, .int, .int, .int, .int, .int, .int, .int, .int, .int, .int, (.object "jdk/internal/access/JavaLangAccess"), .int]
  resolved := Array.replicate 378 none
  statics := none }

def pool34 : Array CpInfo := pool [(1, u "java/lang/Class"), (0, .class_ 1), (0, u "java/lang/Object"), (0, .class_ 3)] 0

/-- java/lang/Class -/
def k34 : Class := { plain "java/lang/Class" (some 0) with
  accessFlags := 49
  interfaces := #[]
  cf := some (fileOf pool34 2 #[] #[] 49 4 #[] #[])
  fields := #[]
  methods := #[]
  instanceTypes := #[]
  staticTypes := #[]
  resolved := Array.replicate 5 none
  statics := none }

/-- the primitive byte -/
def k35 : Class := { plain "byte" none with kind := .primitive 'B', accessFlags := 0x411 }
/-- [B -/
def k36 : Class := { plain "[B" (some 0) with kind := .array 35 .byte, interfaces := #[17, 2], accessFlags := 1041 }

/-- the primitive char -/
def k37 : Class := { plain "char" none with kind := .primitive 'C', accessFlags := 0x411 }
/-- [C -/
def k38 : Class := { plain "[C" (some 0) with kind := .array 37 .char, interfaces := #[17, 2], accessFlags := 1041 }

/-- the primitive int -/
def k39 : Class := { plain "int" none with kind := .primitive 'I', accessFlags := 0x411 }
/-- [I -/
def k40 : Class := { plain "[I" (some 0) with kind := .array 39 .int, interfaces := #[17, 2], accessFlags := 1041 }

/-- [Ljava/lang/Object; -/
def k41 : Class := { plain "[Ljava/lang/Object;" (some 0) with kind := .array 0 (.object "java/lang/Object"), interfaces := #[17, 2], accessFlags := 1041, mirror := some 4 }

def heap : Heap := #[{ cls := 7, slots := #[.long 0, .int 1, .null, .int 0, .null, .int 0, .int 0], vm := .statics 7 },
  { cls := 18, slots := #[.long 0, .int 0, .ref 7, .ref 8], vm := .statics 18 },
  { cls := 20, slots := #[.long 0, .int 0, .null, .ref 9, .ref 6, .null, .null, .null, .int 0, .int 1], vm := .statics 20 },
  { cls := 32, slots := #[.null, .null, .null], vm := .statics 32 },
  { cls := 34, slots := #[], vm := .mirror 41 },
  { cls := 41, slots := #[], vm := .none },
  { cls := 24, slots := #[.ref 5, .int 0], vm := .none },
  { cls := 41, slots := #[], vm := .none },
  { cls := 41, slots := #[], vm := .none },
  { cls := 0, slots := #[], vm := .none }]
def classes : Array Class := #[k0, k1, k2, k3, k4, k5, k6, k7, k8, k9, k10, k11, k12, k13, k14, k15, k16, k17, k18, k19, k20, k21, k22, k23, k24, k25, k26, k27, k28, k29, k30, k31, k32, k33, k34, k35, k36, k37, k38, k39, k40, k41]
def interned : List (Array UInt16 × Addr) := []
def slotsUsed : Nat := 26
def theMethod : MethodId := ⟨1, 3⟩
def args0 : Array Value := #[.int 1, .int 2, .int 3, .int 97, .int 98, .int 9]
def aboutOver (below : List Frame) : State where
  vm := { classes := classes, interned := interned.toArray }
  heap := heap
  slotsUsed := slotsUsed
  threads := #[{ frames := .invoking theMethod args0 :: below }]
def below0 : List Frame := [.native { method := ⟨0, 0⟩, args := #[] }]
def about1 : State := aboutOver below0
def p0 : Program := .bare "" "" ""
def e0 : Env := launch0.env 0 0 0
theorem w_frames : about1.frames = Frame.invoking theMethod args0 :: below0 := rfl
set_option maxRecDepth 65536 in
theorem w_args : argsFit about1.vm theMethod args0 = true := by decide +kernel
set_option maxRecDepth 65536 in
theorem w_heap : heapFits about1 = true := by decide +kernel
set_option maxRecDepth 65536 in
theorem w_runnable : about1.curStatus? = some .runnable := by decide +kernel
set_option maxRecDepth 65536 in
theorem w_alone : about1.alone = true := by decide +kernel
set_option maxRecDepth 65536 in
theorem w_named : about1.methodNamed? x = some theMethod := by decide +kernel
set_option maxRecDepth 65536 in
theorem w_hears : about1.hears theMethod below0 = true := by decide +kernel
set_option maxRecDepth 65536 in
theorem w_ripe : about1.ripe theMethod args0 below0 = true := by decide +kernel
theorem w_running : about1.status = .running := rfl
set_option maxRecDepth 65536 in
theorem w_room : about1.hasRoom e0.platform room_1 = true :=
  launch0.hasRoom_least _ room_1 (by decide +kernel) (by decide +kernel) (by decide +kernel) (by decide +kernel) (by decide +kernel) (by decide +kernel)
theorem allAtoms_all (ts : List Jvm.Cond) (a : Array Jvm.Value) (st : Jvm.State) : (allAtoms ts).before a st = ts.all (fun c => c.before a st) := by
  induction ts with
  | nil => rfl
  | cons c t ih =>
    show (Jvm.Cond.and c (allAtoms t)).before a st = _
    rw [Jvm.Cond.before_and, ih, List.all_cons]
def words1 : List Jvm.Cond := Jvm.Cond.code x code maxLocals ret :: tables_1
/-- a 'code' word, met by the world's own term for the bytes: nothing is compared byte by byte -/
theorem code_word {y : MethodName} {bytes : ByteArray} {mx : Nat} {rt : Option FieldType} {a : Array Value} {s : State} {m : MethodId} {meth : Method} {c : Code} (h1 : s.methodNamed? y = some m) (h2 : s.vm.method? m = some meth) (h3 : meth.code = some c) (h4 : c.code = bytes)
    (h5 : (c.maxLocals == mx && c.exceptionTable.isEmpty && decide (c.maxStack ≤ mostOperands) && decide (meth.sig.returnType = rt) && !meth.locks && decide (parseMethodDescriptor y.desc = some meth.sig)) = true) : (Jvm.Cond.code y bytes mx rt).before a s = true := by
  simp only [Bool.and_eq_true, beq_iff_eq, Bool.not_eq_true', decide_eq_true_eq] at h5
  obtain ⟨⟨⟨⟨⟨g1, g2⟩, g3⟩, g4⟩, g5⟩, g6⟩ := h5
  simp [Cond.before, Cond.holds, Cond.value, h1, h2, h3, h4, g1, g2, g3, g4, g5, g6]
def isCode : Jvm.Cond → Bool
  | .code _ _ _ _ => true
  | _ => false
theorem all_split {L : List Jvm.Cond} {P : Jvm.Cond → Bool} (h1 : L.all (fun c => isCode c || P c) = true) (h2 : ∀ c ∈ L.filter isCode, P c = true) : L.all P = true := by
  refine List.all_eq_true.mpr fun c hc => ?_
  have h := List.all_eq_true.mp h1 c hc
  rcases Bool.eq_false_or_eq_true (isCode c) with hi | hi
  · exact h2 c (List.mem_filter.mpr ⟨hc, hi⟩)
  · simpa [hi] using h
set_option maxRecDepth 65536 in
theorem w_c0 : (Jvm.Cond.code x code maxLocals ret).before args0 about1 = true := code_word (m := ⟨1, 3⟩) (meth := k1m3) (c := k1c3) (by decide +kernel) rfl rfl rfl (by decide +kernel)
set_option maxRecDepth 65536 in
theorem w_c1 : (Jvm.Cond.code ({ cls := "com/example/quaymark/quaymark/ReviewSignedOffPinLaw", name := "str", desc := "(I)Ljava/lang/String;" } : Jvm.MethodName) method_2_code (5 : Nat) (Option.some (Jvm.ClassFile.FieldType.object "java/lang/String"))).before args0 about1 = true := code_word (m := ⟨1, 1⟩) (meth := k1m1) (c := k1c1) (by decide +kernel) rfl rfl rfl (by decide +kernel)
set_option maxRecDepth 65536 in
theorem w_c2 : (Jvm.Cond.code ({ cls := "java/lang/String", name := "<init>", desc := "([C)V" } : Jvm.MethodName) jdk_42_method_3_code (2 : Nat) (Option.none : Option Jvm.ClassFile.FieldType)).before args0 about1 = true := code_word (m := ⟨7, 1⟩) (meth := k7m1) (c := k7c1) (by decide +kernel) rfl rfl rfl (by decide +kernel)
set_option maxRecDepth 65536 in
theorem w_c3 : (Jvm.Cond.code ({ cls := "java/lang/String", name := "<init>", desc := "([CIILjava/lang/Void;)V" } : Jvm.MethodName) jdk_42_method_149_code (6 : Nat) (Option.none : Option Jvm.ClassFile.FieldType)).before args0 about1 = true := code_word (m := ⟨7, 4⟩) (meth := k7m4) (c := k7c4) (by decide +kernel) rfl rfl rfl (by decide +kernel)
set_option maxRecDepth 65536 in
theorem w_c4 : (Jvm.Cond.code ({ cls := "java/lang/Object", name := "<init>", desc := "()V" } : Jvm.MethodName) object_method_1_code (1 : Nat) (Option.none : Option Jvm.ClassFile.FieldType)).before args0 about1 = true := code_word (m := ⟨0, 0⟩) (meth := k0m0) (c := k0c0) (by decide +kernel) rfl rfl rfl (by decide +kernel)
set_option maxRecDepth 65536 in
theorem w_c5 : (Jvm.Cond.code ({ cls := "com/example/quaymark/quaymark/Review$LeftOut", name := "<init>", desc := "(ILjava/lang/String;Ljava/lang/String;)V" } : Jvm.MethodName) prog_24_method_1_code (4 : Nat) (Option.none : Option Jvm.ClassFile.FieldType)).before args0 about1 = true := code_word (m := ⟨9, 0⟩) (meth := k9m0) (c := k9c0) (by decide +kernel) rfl rfl rfl (by decide +kernel)
set_option maxRecDepth 65536 in
theorem w_c6 : (Jvm.Cond.code ({ cls := "java/lang/Record", name := "<init>", desc := "()V" } : Jvm.MethodName) jdk_30_method_1_code (1 : Nat) (Option.none : Option Jvm.ClassFile.FieldType)).before args0 about1 = true := code_word (m := ⟨8, 0⟩) (meth := k8m0) (c := k8c0) (by decide +kernel) rfl rfl rfl (by decide +kernel)
set_option maxRecDepth 65536 in
theorem w_c7 : (Jvm.Cond.code ({ cls := "java/util/ArrayList", name := "<init>", desc := "()V" } : Jvm.MethodName) jdk_38_method_2_code (1 : Nat) (Option.none : Option Jvm.ClassFile.FieldType)).before args0 about1 = true := code_word (m := ⟨18, 0⟩) (meth := k18m0) (c := k18c0) (by decide +kernel) rfl rfl rfl (by decide +kernel)
set_option maxRecDepth 65536 in
theorem w_c8 : (Jvm.Cond.code ({ cls := "java/util/AbstractList", name := "<init>", desc := "()V" } : Jvm.MethodName) jdk_39_method_1_code (1 : Nat) (Option.none : Option Jvm.ClassFile.FieldType)).before args0 about1 = true := code_word (m := ⟨15, 0⟩) (meth := k15m0) (c := k15c0) (by decide +kernel) rfl rfl rfl (by decide +kernel)
set_option maxRecDepth 65536 in
theorem w_c9 : (Jvm.Cond.code ({ cls := "java/util/AbstractCollection", name := "<init>", desc := "()V" } : Jvm.MethodName) jdk_22_method_1_code (1 : Nat) (Option.none : Option Jvm.ClassFile.FieldType)).before args0 about1 = true := code_word (m := ⟨12, 0⟩) (meth := k12m0) (c := k12c0) (by decide +kernel) rfl rfl rfl (by decide +kernel)
set_option maxRecDepth 65536 in
theorem w_c10 : (Jvm.Cond.code ({ cls := "com/example/quaymark/quaymark/Review", name := "<init>", desc := "(Ljava/lang/String;Ljava/util/List;Ljava/lang/String;Lcom/example/quaymark/quaymark/Review$Withdrawal;)V" } : Jvm.MethodName) prog_23_method_1_code (5 : Nat) (Option.none : Option Jvm.ClassFile.FieldType)).before args0 about1 = true := code_word (m := ⟨19, 0⟩) (meth := k19m0) (c := k19c0) (by decide +kernel) rfl rfl rfl (by decide +kernel)
set_option maxRecDepth 65536 in
theorem w_c11 : (Jvm.Cond.code ({ cls := "java/util/List", name := "copyOf", desc := "(Ljava/util/Collection;)Ljava/util/List;" } : Jvm.MethodName) jdk_40_method_48_code (1 : Nat) (Option.some (Jvm.ClassFile.FieldType.object "java/util/List"))).before args0 about1 = true := code_word (m := ⟨14, 5⟩) (meth := k14m5) (c := k14c5) (by decide +kernel) rfl rfl rfl (by decide +kernel)
set_option maxRecDepth 65536 in
theorem w_c12 : (Jvm.Cond.code ({ cls := "java/util/ImmutableCollections", name := "listCopy", desc := "(Ljava/util/Collection;)Ljava/util/List;" } : Jvm.MethodName) jdk_56_method_3_code (2 : Nat) (Option.some (Jvm.ClassFile.FieldType.object "java/util/List"))).before args0 about1 = true := code_word (m := ⟨20, 1⟩) (meth := k20m1) (c := k20c1) (by decide +kernel) rfl rfl rfl (by decide +kernel)
set_option maxRecDepth 65536 in
theorem w_c13 : (Jvm.Cond.code ({ cls := "java/util/ArrayList", name := "isEmpty", desc := "()Z" } : Jvm.MethodName) jdk_38_method_9_code (1 : Nat) (Option.some Jvm.ClassFile.FieldType.boolean)).before args0 about1 = true := code_word (m := ⟨18, 3⟩) (meth := k18m3) (c := k18c3) (by decide +kernel) rfl rfl rfl (by decide +kernel)
set_option maxRecDepth 65536 in
theorem w_c14 : (Jvm.Cond.code ({ cls := "java/util/List", name := "of", desc := "()Ljava/util/List;" } : Jvm.MethodName) jdk_40_method_36_code (0 : Nat) (Option.some (Jvm.ClassFile.FieldType.object "java/util/List"))).before args0 about1 = true := code_word (m := ⟨14, 3⟩) (meth := k14m3) (c := k14c3) (by decide +kernel) rfl rfl rfl (by decide +kernel)
set_option maxRecDepth 65536 in
theorem w_c15 : (Jvm.Cond.code ({ cls := "com/example/quaymark/quaymark/Review", name := "signedOff", desc := "(Ljava/lang/String;)Lcom/example/quaymark/quaymark/Review;" } : Jvm.MethodName) prog_23_method_4_code (2 : Nat) (Option.some (Jvm.ClassFile.FieldType.object "com/example/quaymark/quaymark/Review"))).before args0 about1 = true := code_word (m := ⟨19, 1⟩) (meth := k19m1) (c := k19c1) (by decide +kernel) rfl rfl rfl (by decide +kernel)
set_option maxRecDepth 65536 in
theorem w_c16 : (Jvm.Cond.code ({ cls := "com/example/quaymark/quaymark/Review", name := "leftOut", desc := "()Ljava/util/List;" } : Jvm.MethodName) prog_23_method_13_code (1 : Nat) (Option.some (Jvm.ClassFile.FieldType.object "java/util/List"))).before args0 about1 = true := code_word (m := ⟨19, 3⟩) (meth := k19m3) (c := k19c3) (by decide +kernel) rfl rfl rfl (by decide +kernel)
set_option maxRecDepth 65536 in
theorem w_c17 : (Jvm.Cond.code ({ cls := "java/util/ImmutableCollections$ListN", name := "size", desc := "()I" } : Jvm.MethodName) jdk_45_method_3_code (1 : Nat) (Option.some Jvm.ClassFile.FieldType.int)).before args0 about1 = true := code_word (m := ⟨24, 0⟩) (meth := k24m0) (c := k24c0) (by decide +kernel) rfl rfl rfl (by decide +kernel)
set_option maxRecDepth 65536 in
theorem w_c18 : (Jvm.Cond.code ({ cls := "com/example/quaymark/quaymark/Review", name := "submittedBy", desc := "()Ljava/lang/String;" } : Jvm.MethodName) prog_23_method_12_code (1 : Nat) (Option.some (Jvm.ClassFile.FieldType.object "java/lang/String"))).before args0 about1 = true := code_word (m := ⟨19, 2⟩) (meth := k19m2) (c := k19c2) (by decide +kernel) rfl rfl rfl (by decide +kernel)
set_option maxRecDepth 65536 in
theorem w_c19 : (Jvm.Cond.code ({ cls := "com/example/quaymark/quaymark/ReviewSignedOffPinLaw", name := "same", desc := "(Ljava/lang/String;Ljava/lang/String;)Z" } : Jvm.MethodName) method_3_code (2 : Nat) (Option.some Jvm.ClassFile.FieldType.boolean)).before args0 about1 = true := code_word (m := ⟨1, 2⟩) (meth := k1m2) (c := k1c2) (by decide +kernel) rfl rfl rfl (by decide +kernel)
set_option maxRecDepth 65536 in
theorem w_c20 : (Jvm.Cond.code ({ cls := "java/lang/String", name := "equals", desc := "(Ljava/lang/Object;)Z" } : Jvm.MethodName) jdk_42_method_66_code (3 : Nat) (Option.some Jvm.ClassFile.FieldType.boolean)).before args0 about1 = true := code_word (m := ⟨7, 2⟩) (meth := k7m2) (c := k7c2) (by decide +kernel) rfl rfl rfl (by decide +kernel)
set_option maxRecDepth 65536 in
theorem w_c21 : (Jvm.Cond.code ({ cls := "com/example/quaymark/quaymark/Review", name := "signedOffBy", desc := "()Ljava/lang/String;" } : Jvm.MethodName) prog_23_method_14_code (1 : Nat) (Option.some (Jvm.ClassFile.FieldType.object "java/lang/String"))).before args0 about1 = true := code_word (m := ⟨19, 4⟩) (meth := k19m4) (c := k19c4) (by decide +kernel) rfl rfl rfl (by decide +kernel)
set_option maxRecDepth 65536 in
theorem w_c22 : (Jvm.Cond.code ({ cls := "com/example/quaymark/quaymark/Review", name := "withdrawn", desc := "()Lcom/example/quaymark/quaymark/Review$Withdrawal;" } : Jvm.MethodName) prog_23_method_15_code (1 : Nat) (Option.some (Jvm.ClassFile.FieldType.object "com/example/quaymark/quaymark/Review$Withdrawal"))).before args0 about1 = true := code_word (m := ⟨19, 5⟩) (meth := k19m5) (c := k19c5) (by decide +kernel) rfl rfl rfl (by decide +kernel)
set_option maxRecDepth 65536 in
theorem w_c23 : (Jvm.Cond.code ({ cls := "com/example/quaymark/quaymark/Review$Withdrawal", name := "<init>", desc := "(Ljava/lang/String;Ljava/lang/String;)V" } : Jvm.MethodName) prog_25_method_1_code (3 : Nat) (Option.none : Option Jvm.ClassFile.FieldType)).before args0 about1 = true := code_word (m := ⟨25, 0⟩) (meth := k25m0) (c := k25c0) (by decide +kernel) rfl rfl rfl (by decide +kernel)
set_option maxRecDepth 65536 in
theorem w_c24 : (Jvm.Cond.code ({ cls := "java/util/ArrayList", name := "add", desc := "(Ljava/lang/Object;)Z" } : Jvm.MethodName) jdk_38_method_25_code (2 : Nat) (Option.some Jvm.ClassFile.FieldType.boolean)).before args0 about1 = true := code_word (m := ⟨18, 6⟩) (meth := k18m6) (c := k18c6) (by decide +kernel) rfl rfl rfl (by decide +kernel)
set_option maxRecDepth 65536 in
theorem w_c25 : (Jvm.Cond.code ({ cls := "java/util/ArrayList", name := "add", desc := "(Ljava/lang/Object;[Ljava/lang/Object;I)V" } : Jvm.MethodName) jdk_38_method_24_code (4 : Nat) (Option.none : Option Jvm.ClassFile.FieldType)).before args0 about1 = true := code_word (m := ⟨18, 5⟩) (meth := k18m5) (c := k18c5) (by decide +kernel) rfl rfl rfl (by decide +kernel)
set_option maxRecDepth 65536 in
theorem w_c26 : (Jvm.Cond.code ({ cls := "java/util/ArrayList", name := "grow", desc := "()[Ljava/lang/Object;" } : Jvm.MethodName) jdk_38_method_7_code (1 : Nat) (Option.some (Jvm.ClassFile.FieldType.array (Jvm.ClassFile.FieldType.object "java/lang/Object")))).before args0 about1 = true := code_word (m := ⟨18, 2⟩) (meth := k18m2) (c := k18c2) (by decide +kernel) rfl rfl rfl (by decide +kernel)
set_option maxRecDepth 65536 in
theorem w_c27 : (Jvm.Cond.code ({ cls := "java/util/ArrayList", name := "grow", desc := "(I)[Ljava/lang/Object;" } : Jvm.MethodName) jdk_38_method_6_code (4 : Nat) (Option.some (Jvm.ClassFile.FieldType.array (Jvm.ClassFile.FieldType.object "java/lang/Object")))).before args0 about1 = true := code_word (m := ⟨18, 1⟩) (meth := k18m1) (c := k18c1) (by decide +kernel) rfl rfl rfl (by decide +kernel)
set_option maxRecDepth 65536 in
theorem w_c28 : (Jvm.Cond.code ({ cls := "java/lang/Math", name := "max", desc := "(II)I" } : Jvm.MethodName) jdk_29_method_65_code (2 : Nat) (Option.some Jvm.ClassFile.FieldType.int)).before args0 about1 = true := code_word (m := ⟨26, 1⟩) (meth := k26m1) (c := k26c1) (by decide +kernel) rfl rfl rfl (by decide +kernel)
set_option maxRecDepth 65536 in
theorem w_c29 : (Jvm.Cond.code ({ cls := "java/util/ArrayList", name := "toArray", desc := "()[Ljava/lang/Object;" } : Jvm.MethodName) jdk_38_method_16_code (1 : Nat) (Option.some (Jvm.ClassFile.FieldType.array (Jvm.ClassFile.FieldType.object "java/lang/Object")))).before args0 about1 = true := code_word (m := ⟨18, 4⟩) (meth := k18m4) (c := k18c4) (by decide +kernel) rfl rfl rfl (by decide +kernel)
set_option maxRecDepth 65536 in
theorem w_c30 : (Jvm.Cond.code ({ cls := "java/util/Arrays", name := "copyOf", desc := "([Ljava/lang/Object;I)[Ljava/lang/Object;" } : Jvm.MethodName) jdk_65_method_119_code (2 : Nat) (Option.some (Jvm.ClassFile.FieldType.array (Jvm.ClassFile.FieldType.object "java/lang/Object")))).before args0 about1 = true := code_word (m := ⟨27, 1⟩) (meth := k27m1) (c := k27c1) (by decide +kernel) rfl rfl rfl (by decide +kernel)
set_option maxRecDepth 65536 in
theorem w_c31 : (Jvm.Cond.code ({ cls := "java/util/Arrays", name := "copyOf", desc := "([Ljava/lang/Object;ILjava/lang/Class;)[Ljava/lang/Object;" } : Jvm.MethodName) jdk_65_method_120_code (4 : Nat) (Option.some (Jvm.ClassFile.FieldType.array (Jvm.ClassFile.FieldType.object "java/lang/Object")))).before args0 about1 = true := code_word (m := ⟨27, 2⟩) (meth := k27m2) (c := k27c2) (by decide +kernel) rfl rfl rfl (by decide +kernel)
set_option maxRecDepth 65536 in
theorem w_c32 : (Jvm.Cond.code ({ cls := "java/lang/Math", name := "min", desc := "(II)I" } : Jvm.MethodName) jdk_29_method_69_code (2 : Nat) (Option.some Jvm.ClassFile.FieldType.int)).before args0 about1 = true := code_word (m := ⟨26, 2⟩) (meth := k26m2) (c := k26c2) (by decide +kernel) rfl rfl rfl (by decide +kernel)
set_option maxRecDepth 65536 in
theorem w_c33 : (Jvm.Cond.code ({ cls := "java/util/List", name := "of", desc := "([Ljava/lang/Object;)Ljava/util/List;" } : Jvm.MethodName) jdk_40_method_47_code (2 : Nat) (Option.some (Jvm.ClassFile.FieldType.object "java/util/List"))).before args0 about1 = true := code_word (m := ⟨14, 4⟩) (meth := k14m4) (c := k14c4) (by decide +kernel) rfl rfl rfl (by decide +kernel)
set_option maxRecDepth 65536 in
theorem w_c34 : (Jvm.Cond.code ({ cls := "java/util/ImmutableCollections$List12", name := "<init>", desc := "(Ljava/lang/Object;)V" } : Jvm.MethodName) jdk_44_method_1_code (2 : Nat) (Option.none : Option Jvm.ClassFile.FieldType)).before args0 about1 = true := code_word (m := ⟨23, 0⟩) (meth := k23m0) (c := k23c0) (by decide +kernel) rfl rfl rfl (by decide +kernel)
set_option maxRecDepth 65536 in
theorem w_c35 : (Jvm.Cond.code ({ cls := "java/util/ImmutableCollections$AbstractImmutableList", name := "<init>", desc := "()V" } : Jvm.MethodName) jdk_46_method_1_code (1 : Nat) (Option.none : Option Jvm.ClassFile.FieldType)).before args0 about1 = true := code_word (m := ⟨22, 0⟩) (meth := k22m0) (c := k22c0) (by decide +kernel) rfl rfl rfl (by decide +kernel)
set_option maxRecDepth 65536 in
theorem w_c36 : (Jvm.Cond.code ({ cls := "java/util/ImmutableCollections$AbstractImmutableCollection", name := "<init>", desc := "()V" } : Jvm.MethodName) jdk_47_method_1_code (1 : Nat) (Option.none : Option Jvm.ClassFile.FieldType)).before args0 about1 = true := code_word (m := ⟨21, 0⟩) (meth := k21m0) (c := k21c0) (by decide +kernel) rfl rfl rfl (by decide +kernel)
set_option maxRecDepth 65536 in
theorem w_c37 : (Jvm.Cond.code ({ cls := "java/util/Objects", name := "requireNonNull", desc := "(Ljava/lang/Object;)Ljava/lang/Object;" } : Jvm.MethodName) jdk_31_method_10_code (1 : Nat) (Option.some (Jvm.ClassFile.FieldType.object "java/lang/Object"))).before args0 about1 = true := code_word (m := ⟨29, 1⟩) (meth := k29m1) (c := k29c1) (by decide +kernel) rfl rfl rfl (by decide +kernel)
set_option maxRecDepth 65536 in
theorem w_c38 : (Jvm.Cond.code ({ cls := "java/util/ImmutableCollections$List12", name := "size", desc := "()I" } : Jvm.MethodName) jdk_44_method_3_code (1 : Nat) (Option.some Jvm.ClassFile.FieldType.int)).before args0 about1 = true := code_word (m := ⟨23, 2⟩) (meth := k23m2) (c := k23c2) (by decide +kernel) rfl rfl rfl (by decide +kernel)
set_option maxRecDepth 65536 in
theorem w_c39 : (Jvm.Cond.code ({ cls := "java/util/ImmutableCollections$List12", name := "get", desc := "(I)Ljava/lang/Object;" } : Jvm.MethodName) jdk_44_method_5_code (2 : Nat) (Option.some (Jvm.ClassFile.FieldType.object "java/lang/Object"))).before args0 about1 = true := code_word (m := ⟨23, 3⟩) (meth := k23m3) (c := k23c3) (by decide +kernel) rfl rfl rfl (by decide +kernel)
set_option maxRecDepth 65536 in
theorem w_c40 : (Jvm.Cond.code ({ cls := "java/lang/String", name := "valueOf", desc := "(C)Ljava/lang/String;" } : Jvm.MethodName) jdk_42_method_139_code (1 : Nat) (Option.some (Jvm.ClassFile.FieldType.object "java/lang/String"))).before args0 about1 = true := code_word (m := ⟨7, 3⟩) (meth := k7m3) (c := k7c3) (by decide +kernel) rfl rfl rfl (by decide +kernel)
set_option maxRecDepth 65536 in
theorem w_c41 : (Jvm.Cond.code ({ cls := "java/lang/StringLatin1", name := "canEncode", desc := "(C)Z" } : Jvm.MethodName) jdk_43_method_3_code (1 : Nat) (Option.some Jvm.ClassFile.FieldType.boolean)).before args0 about1 = true := code_word (m := ⟨30, 1⟩) (meth := k30m1) (c := k30c1) (by decide +kernel) rfl rfl rfl (by decide +kernel)
set_option maxRecDepth 65536 in
theorem w_c42 : (Jvm.Cond.code ({ cls := "java/lang/StringLatin1", name := "toBytes", desc := "(C)[B" } : Jvm.MethodName) jdk_43_method_46_code (1 : Nat) (Option.some (Jvm.ClassFile.FieldType.array Jvm.ClassFile.FieldType.byte))).before args0 about1 = true := code_word (m := ⟨30, 2⟩) (meth := k30m2) (c := k30c2) (by decide +kernel) rfl rfl rfl (by decide +kernel)
set_option maxRecDepth 65536 in
theorem w_c43 : (Jvm.Cond.code ({ cls := "java/lang/String", name := "<init>", desc := "([BB)V" } : Jvm.MethodName) jdk_42_method_151_code (3 : Nat) (Option.none : Option Jvm.ClassFile.FieldType)).before args0 about1 = true := code_word (m := ⟨7, 5⟩) (meth := k7m5) (c := k7c5) (by decide +kernel) rfl rfl rfl (by decide +kernel)
set_option maxRecDepth 65536 in
theorem w_c44 : (Jvm.Cond.code ({ cls := "java/lang/StringUTF16", name := "compress", desc := "([CII)[B" } : Jvm.MethodName) jdk_52_method_16_code (6 : Nat) (Option.some (Jvm.ClassFile.FieldType.array Jvm.ClassFile.FieldType.byte))).before args0 about1 = true := code_word (m := ⟨31, 2⟩) (meth := k31m2) (c := k31c2) (by decide +kernel) rfl rfl rfl (by decide +kernel)
set_option maxRecDepth 65536 in
theorem w_c45 : (Jvm.Cond.code ({ cls := "java/lang/StringUTF16", name := "compress", desc := "([CI[BII)I" } : Jvm.MethodName) jdk_52_method_21_code (7 : Nat) (Option.some Jvm.ClassFile.FieldType.int)).before args0 about1 = true := code_word (m := ⟨31, 3⟩) (meth := k31m3) (c := k31c3) (by decide +kernel) rfl rfl rfl (by decide +kernel)
set_option maxRecDepth 65536 in
theorem w_c46 : (Jvm.Cond.code ({ cls := "java/lang/StringUTF16", name := "coderFromArrayLen", desc := "([BI)B" } : Jvm.MethodName) jdk_52_method_15_code (2 : Nat) (Option.some Jvm.ClassFile.FieldType.byte)).before args0 about1 = true := code_word (m := ⟨31, 1⟩) (meth := k31m1) (c := k31c1) (by decide +kernel) rfl rfl rfl (by decide +kernel)
set_option maxRecDepth 65536 in
theorem w_c47 : (Jvm.Cond.code ({ cls := "java/util/ImmutableCollections$List12", name := "<init>", desc := "(Ljava/lang/Object;Ljava/lang/Object;)V" } : Jvm.MethodName) jdk_44_method_2_code (3 : Nat) (Option.none : Option Jvm.ClassFile.FieldType)).before args0 about1 = true := code_word (m := ⟨23, 1⟩) (meth := k23m1) (c := k23c1) (by decide +kernel) rfl rfl rfl (by decide +kernel)
def codes1 : List Jvm.Cond := [Jvm.Cond.code x code maxLocals ret, Jvm.Cond.code ({ cls := "com/example/quaymark/quaymark/ReviewSignedOffPinLaw", name := "str", desc := "(I)Ljava/lang/String;" } : Jvm.MethodName) method_2_code (5 : Nat) (Option.some (Jvm.ClassFile.FieldType.object "java/lang/String")), Jvm.Cond.code ({ cls := "java/lang/String", name := "<init>", desc := "([C)V" } : Jvm.MethodName) jdk_42_method_3_code (2 : Nat) (Option.none : Option Jvm.ClassFile.FieldType), Jvm.Cond.code ({ cls := "java/lang/String", name := "<init>", desc := "([CIILjava/lang/Void;)V" } : Jvm.MethodName) jdk_42_method_149_code (6 : Nat) (Option.none : Option Jvm.ClassFile.FieldType), Jvm.Cond.code ({ cls := "java/lang/Object", name := "<init>", desc := "()V" } : Jvm.MethodName) object_method_1_code (1 : Nat) (Option.none : Option Jvm.ClassFile.FieldType), Jvm.Cond.code ({ cls := "com/example/quaymark/quaymark/Review$LeftOut", name := "<init>", desc := "(ILjava/lang/String;Ljava/lang/String;)V" } : Jvm.MethodName) prog_24_method_1_code (4 : Nat) (Option.none : Option Jvm.ClassFile.FieldType), Jvm.Cond.code ({ cls := "java/lang/Record", name := "<init>", desc := "()V" } : Jvm.MethodName) jdk_30_method_1_code (1 : Nat) (Option.none : Option Jvm.ClassFile.FieldType), Jvm.Cond.code ({ cls := "java/util/ArrayList", name := "<init>", desc := "()V" } : Jvm.MethodName) jdk_38_method_2_code (1 : Nat) (Option.none : Option Jvm.ClassFile.FieldType), Jvm.Cond.code ({ cls := "java/util/AbstractList", name := "<init>", desc := "()V" } : Jvm.MethodName) jdk_39_method_1_code (1 : Nat) (Option.none : Option Jvm.ClassFile.FieldType), Jvm.Cond.code ({ cls := "java/util/AbstractCollection", name := "<init>", desc := "()V" } : Jvm.MethodName) jdk_22_method_1_code (1 : Nat) (Option.none : Option Jvm.ClassFile.FieldType), Jvm.Cond.code ({ cls := "com/example/quaymark/quaymark/Review", name := "<init>", desc := "(Ljava/lang/String;Ljava/util/List;Ljava/lang/String;Lcom/example/quaymark/quaymark/Review$Withdrawal;)V" } : Jvm.MethodName) prog_23_method_1_code (5 : Nat) (Option.none : Option Jvm.ClassFile.FieldType), Jvm.Cond.code ({ cls := "java/util/List", name := "copyOf", desc := "(Ljava/util/Collection;)Ljava/util/List;" } : Jvm.MethodName) jdk_40_method_48_code (1 : Nat) (Option.some (Jvm.ClassFile.FieldType.object "java/util/List")), Jvm.Cond.code ({ cls := "java/util/ImmutableCollections", name := "listCopy", desc := "(Ljava/util/Collection;)Ljava/util/List;" } : Jvm.MethodName) jdk_56_method_3_code (2 : Nat) (Option.some (Jvm.ClassFile.FieldType.object "java/util/List")), Jvm.Cond.code ({ cls := "java/util/ArrayList", name := "isEmpty", desc := "()Z" } : Jvm.MethodName) jdk_38_method_9_code (1 : Nat) (Option.some Jvm.ClassFile.FieldType.boolean), Jvm.Cond.code ({ cls := "java/util/List", name := "of", desc := "()Ljava/util/List;" } : Jvm.MethodName) jdk_40_method_36_code (0 : Nat) (Option.some (Jvm.ClassFile.FieldType.object "java/util/List")), Jvm.Cond.code ({ cls := "com/example/quaymark/quaymark/Review", name := "signedOff", desc := "(Ljava/lang/String;)Lcom/example/quaymark/quaymark/Review;" } : Jvm.MethodName) prog_23_method_4_code (2 : Nat) (Option.some (Jvm.ClassFile.FieldType.object "com/example/quaymark/quaymark/Review")), Jvm.Cond.code ({ cls := "com/example/quaymark/quaymark/Review", name := "leftOut", desc := "()Ljava/util/List;" } : Jvm.MethodName) prog_23_method_13_code (1 : Nat) (Option.some (Jvm.ClassFile.FieldType.object "java/util/List")), Jvm.Cond.code ({ cls := "java/util/ImmutableCollections$ListN", name := "size", desc := "()I" } : Jvm.MethodName) jdk_45_method_3_code (1 : Nat) (Option.some Jvm.ClassFile.FieldType.int), Jvm.Cond.code ({ cls := "com/example/quaymark/quaymark/Review", name := "submittedBy", desc := "()Ljava/lang/String;" } : Jvm.MethodName) prog_23_method_12_code (1 : Nat) (Option.some (Jvm.ClassFile.FieldType.object "java/lang/String")), Jvm.Cond.code ({ cls := "com/example/quaymark/quaymark/ReviewSignedOffPinLaw", name := "same", desc := "(Ljava/lang/String;Ljava/lang/String;)Z" } : Jvm.MethodName) method_3_code (2 : Nat) (Option.some Jvm.ClassFile.FieldType.boolean), Jvm.Cond.code ({ cls := "java/lang/String", name := "equals", desc := "(Ljava/lang/Object;)Z" } : Jvm.MethodName) jdk_42_method_66_code (3 : Nat) (Option.some Jvm.ClassFile.FieldType.boolean), Jvm.Cond.code ({ cls := "com/example/quaymark/quaymark/Review", name := "signedOffBy", desc := "()Ljava/lang/String;" } : Jvm.MethodName) prog_23_method_14_code (1 : Nat) (Option.some (Jvm.ClassFile.FieldType.object "java/lang/String")), Jvm.Cond.code ({ cls := "com/example/quaymark/quaymark/Review", name := "withdrawn", desc := "()Lcom/example/quaymark/quaymark/Review$Withdrawal;" } : Jvm.MethodName) prog_23_method_15_code (1 : Nat) (Option.some (Jvm.ClassFile.FieldType.object "com/example/quaymark/quaymark/Review$Withdrawal")), Jvm.Cond.code ({ cls := "com/example/quaymark/quaymark/Review$Withdrawal", name := "<init>", desc := "(Ljava/lang/String;Ljava/lang/String;)V" } : Jvm.MethodName) prog_25_method_1_code (3 : Nat) (Option.none : Option Jvm.ClassFile.FieldType), Jvm.Cond.code ({ cls := "java/util/ArrayList", name := "add", desc := "(Ljava/lang/Object;)Z" } : Jvm.MethodName) jdk_38_method_25_code (2 : Nat) (Option.some Jvm.ClassFile.FieldType.boolean), Jvm.Cond.code ({ cls := "java/util/ArrayList", name := "add", desc := "(Ljava/lang/Object;[Ljava/lang/Object;I)V" } : Jvm.MethodName) jdk_38_method_24_code (4 : Nat) (Option.none : Option Jvm.ClassFile.FieldType), Jvm.Cond.code ({ cls := "java/util/ArrayList", name := "grow", desc := "()[Ljava/lang/Object;" } : Jvm.MethodName) jdk_38_method_7_code (1 : Nat) (Option.some (Jvm.ClassFile.FieldType.array (Jvm.ClassFile.FieldType.object "java/lang/Object"))), Jvm.Cond.code ({ cls := "java/util/ArrayList", name := "grow", desc := "(I)[Ljava/lang/Object;" } : Jvm.MethodName) jdk_38_method_6_code (4 : Nat) (Option.some (Jvm.ClassFile.FieldType.array (Jvm.ClassFile.FieldType.object "java/lang/Object"))), Jvm.Cond.code ({ cls := "java/lang/Math", name := "max", desc := "(II)I" } : Jvm.MethodName) jdk_29_method_65_code (2 : Nat) (Option.some Jvm.ClassFile.FieldType.int), Jvm.Cond.code ({ cls := "java/util/ArrayList", name := "toArray", desc := "()[Ljava/lang/Object;" } : Jvm.MethodName) jdk_38_method_16_code (1 : Nat) (Option.some (Jvm.ClassFile.FieldType.array (Jvm.ClassFile.FieldType.object "java/lang/Object"))), Jvm.Cond.code ({ cls := "java/util/Arrays", name := "copyOf", desc := "([Ljava/lang/Object;I)[Ljava/lang/Object;" } : Jvm.MethodName) jdk_65_method_119_code (2 : Nat) (Option.some (Jvm.ClassFile.FieldType.array (Jvm.ClassFile.FieldType.object "java/lang/Object"))), Jvm.Cond.code ({ cls := "java/util/Arrays", name := "copyOf", desc := "([Ljava/lang/Object;ILjava/lang/Class;)[Ljava/lang/Object;" } : Jvm.MethodName) jdk_65_method_120_code (4 : Nat) (Option.some (Jvm.ClassFile.FieldType.array (Jvm.ClassFile.FieldType.object "java/lang/Object"))), Jvm.Cond.code ({ cls := "java/lang/Math", name := "min", desc := "(II)I" } : Jvm.MethodName) jdk_29_method_69_code (2 : Nat) (Option.some Jvm.ClassFile.FieldType.int), Jvm.Cond.code ({ cls := "java/util/List", name := "of", desc := "([Ljava/lang/Object;)Ljava/util/List;" } : Jvm.MethodName) jdk_40_method_47_code (2 : Nat) (Option.some (Jvm.ClassFile.FieldType.object "java/util/List")), Jvm.Cond.code ({ cls := "java/util/ImmutableCollections$List12", name := "<init>", desc := "(Ljava/lang/Object;)V" } : Jvm.MethodName) jdk_44_method_1_code (2 : Nat) (Option.none : Option Jvm.ClassFile.FieldType), Jvm.Cond.code ({ cls := "java/util/ImmutableCollections$AbstractImmutableList", name := "<init>", desc := "()V" } : Jvm.MethodName) jdk_46_method_1_code (1 : Nat) (Option.none : Option Jvm.ClassFile.FieldType), Jvm.Cond.code ({ cls := "java/util/ImmutableCollections$AbstractImmutableCollection", name := "<init>", desc := "()V" } : Jvm.MethodName) jdk_47_method_1_code (1 : Nat) (Option.none : Option Jvm.ClassFile.FieldType), Jvm.Cond.code ({ cls := "java/util/Objects", name := "requireNonNull", desc := "(Ljava/lang/Object;)Ljava/lang/Object;" } : Jvm.MethodName) jdk_31_method_10_code (1 : Nat) (Option.some (Jvm.ClassFile.FieldType.object "java/lang/Object")), Jvm.Cond.code ({ cls := "java/util/ImmutableCollections$List12", name := "size", desc := "()I" } : Jvm.MethodName) jdk_44_method_3_code (1 : Nat) (Option.some Jvm.ClassFile.FieldType.int), Jvm.Cond.code ({ cls := "java/util/ImmutableCollections$List12", name := "get", desc := "(I)Ljava/lang/Object;" } : Jvm.MethodName) jdk_44_method_5_code (2 : Nat) (Option.some (Jvm.ClassFile.FieldType.object "java/lang/Object")), Jvm.Cond.code ({ cls := "java/lang/String", name := "valueOf", desc := "(C)Ljava/lang/String;" } : Jvm.MethodName) jdk_42_method_139_code (1 : Nat) (Option.some (Jvm.ClassFile.FieldType.object "java/lang/String")), Jvm.Cond.code ({ cls := "java/lang/StringLatin1", name := "canEncode", desc := "(C)Z" } : Jvm.MethodName) jdk_43_method_3_code (1 : Nat) (Option.some Jvm.ClassFile.FieldType.boolean), Jvm.Cond.code ({ cls := "java/lang/StringLatin1", name := "toBytes", desc := "(C)[B" } : Jvm.MethodName) jdk_43_method_46_code (1 : Nat) (Option.some (Jvm.ClassFile.FieldType.array Jvm.ClassFile.FieldType.byte)), Jvm.Cond.code ({ cls := "java/lang/String", name := "<init>", desc := "([BB)V" } : Jvm.MethodName) jdk_42_method_151_code (3 : Nat) (Option.none : Option Jvm.ClassFile.FieldType), Jvm.Cond.code ({ cls := "java/lang/StringUTF16", name := "compress", desc := "([CII)[B" } : Jvm.MethodName) jdk_52_method_16_code (6 : Nat) (Option.some (Jvm.ClassFile.FieldType.array Jvm.ClassFile.FieldType.byte)), Jvm.Cond.code ({ cls := "java/lang/StringUTF16", name := "compress", desc := "([CI[BII)I" } : Jvm.MethodName) jdk_52_method_21_code (7 : Nat) (Option.some Jvm.ClassFile.FieldType.int), Jvm.Cond.code ({ cls := "java/lang/StringUTF16", name := "coderFromArrayLen", desc := "([BI)B" } : Jvm.MethodName) jdk_52_method_15_code (2 : Nat) (Option.some Jvm.ClassFile.FieldType.byte), Jvm.Cond.code ({ cls := "java/util/ImmutableCollections$List12", name := "<init>", desc := "(Ljava/lang/Object;Ljava/lang/Object;)V" } : Jvm.MethodName) jdk_44_method_2_code (3 : Nat) (Option.none : Option Jvm.ClassFile.FieldType)]
set_option maxRecDepth 65536 in
theorem codes_eq : words1.filter isCode = codes1 := rfl
theorem w_codes : ∀ c ∈ words1.filter isCode, c.before args0 about1 = true := by
  rw [codes_eq]
  intro c hc
  simp only [codes1, List.mem_cons, List.not_mem_nil, or_false] at hc
  rcases hc with rfl | rfl | rfl | rfl | rfl | rfl | rfl | rfl | rfl | rfl | rfl | rfl | rfl | rfl | rfl | rfl | rfl | rfl | rfl | rfl | rfl | rfl | rfl | rfl | rfl | rfl | rfl | rfl | rfl | rfl | rfl | rfl | rfl | rfl | rfl | rfl | rfl | rfl | rfl | rfl | rfl | rfl | rfl | rfl | rfl | rfl | rfl | rfl
  · exact w_c0
  · exact w_c1
  · exact w_c2
  · exact w_c3
  · exact w_c4
  · exact w_c5
  · exact w_c6
  · exact w_c7
  · exact w_c8
  · exact w_c9
  · exact w_c10
  · exact w_c11
  · exact w_c12
  · exact w_c13
  · exact w_c14
  · exact w_c15
  · exact w_c16
  · exact w_c17
  · exact w_c18
  · exact w_c19
  · exact w_c20
  · exact w_c21
  · exact w_c22
  · exact w_c23
  · exact w_c24
  · exact w_c25
  · exact w_c26
  · exact w_c27
  · exact w_c28
  · exact w_c29
  · exact w_c30
  · exact w_c31
  · exact w_c32
  · exact w_c33
  · exact w_c34
  · exact w_c35
  · exact w_c36
  · exact w_c37
  · exact w_c38
  · exact w_c39
  · exact w_c40
  · exact w_c41
  · exact w_c42
  · exact w_c43
  · exact w_c44
  · exact w_c45
  · exact w_c46
  · exact w_c47
set_option maxRecDepth 65536 in
theorem w_t1 : (words1.take 24).all (fun c => isCode c || c.before args0 about1) = true := by decide +kernel
set_option maxRecDepth 65536 in
theorem w_t2 : ((words1.drop 24).take 24).all (fun c => isCode c || c.before args0 about1) = true := by decide +kernel
set_option maxRecDepth 65536 in
theorem w_t3 : (((words1.drop 24).drop 24).take 24).all (fun c => isCode c || c.before args0 about1) = true := by decide +kernel
set_option maxRecDepth 65536 in
theorem w_t4 : ((((words1.drop 24).drop 24).drop 24).take 24).all (fun c => isCode c || c.before args0 about1) = true := by decide +kernel
set_option maxRecDepth 65536 in
theorem w_t5 : (((((words1.drop 24).drop 24).drop 24).drop 24).take 24).all (fun c => isCode c || c.before args0 about1) = true := by decide +kernel
set_option maxRecDepth 65536 in
theorem w_t6 : ((((((words1.drop 24).drop 24).drop 24).drop 24).drop 24).take 24).all (fun c => isCode c || c.before args0 about1) = true := by decide +kernel
set_option maxRecDepth 65536 in
theorem w_t7 : (((((((words1.drop 24).drop 24).drop 24).drop 24).drop 24).drop 24).take 24).all (fun c => isCode c || c.before args0 about1) = true := by decide +kernel
set_option maxRecDepth 65536 in
theorem w_t8 : ((((((((words1.drop 24).drop 24).drop 24).drop 24).drop 24).drop 24).drop 24).take 24).all (fun c => isCode c || c.before args0 about1) = true := by decide +kernel
set_option maxRecDepth 65536 in
theorem w_t9 : (((((((((words1.drop 24).drop 24).drop 24).drop 24).drop 24).drop 24).drop 24).drop 24).take 24).all (fun c => isCode c || c.before args0 about1) = true := by decide +kernel
set_option maxRecDepth 65536 in
theorem w_t10 : ((((((((((words1.drop 24).drop 24).drop 24).drop 24).drop 24).drop 24).drop 24).drop 24).drop 24).take 24).all (fun c => isCode c || c.before args0 about1) = true := by decide +kernel
set_option maxRecDepth 65536 in
theorem w_t11 : (((((((((((words1.drop 24).drop 24).drop 24).drop 24).drop 24).drop 24).drop 24).drop 24).drop 24).drop 24).take 24).all (fun c => isCode c || c.before args0 about1) = true := by decide +kernel
set_option maxRecDepth 65536 in
theorem w_t12 : ((((((((((((words1.drop 24).drop 24).drop 24).drop 24).drop 24).drop 24).drop 24).drop 24).drop 24).drop 24).drop 24).take 24).all (fun c => isCode c || c.before args0 about1) = true := by decide +kernel
set_option maxRecDepth 65536 in
theorem w_t13 : (((((((((((((words1.drop 24).drop 24).drop 24).drop 24).drop 24).drop 24).drop 24).drop 24).drop 24).drop 24).drop 24).drop 24).take 24).all (fun c => isCode c || c.before args0 about1) = true := by decide +kernel
set_option maxRecDepth 65536 in
theorem w_t14 : (((((((((((((words1.drop 24).drop 24).drop 24).drop 24).drop 24).drop 24).drop 24).drop 24).drop 24).drop 24).drop 24).drop 24).drop 24).all (fun c => isCode c || c.before args0 about1) = true := by decide +kernel
theorem w_tables : (allAtoms (Jvm.Cond.code x code maxLocals ret :: tables_1)).before args0 about1 = true := by
  rw [allAtoms_all]
  show words1.all (fun c => c.before args0 about1) = true
  refine all_split ?_ w_codes
  rw [← List.take_append_drop 24 words1, List.all_append, w_t1, ← List.take_append_drop 24 (words1.drop 24), List.all_append, w_t2, ← List.take_append_drop 24 ((words1.drop 24).drop 24), List.all_append, w_t3, ← List.take_append_drop 24 (((words1.drop 24).drop 24).drop 24), List.all_append, w_t4, ← List.take_append_drop 24 ((((words1.drop 24).drop 24).drop 24).drop 24), List.all_append, w_t5, ← List.take_append_drop 24 (((((words1.drop 24).drop 24).drop 24).drop 24).drop 24), List.all_append, w_t6, ← List.take_append_drop 24 ((((((words1.drop 24).drop 24).drop 24).drop 24).drop 24).drop 24), List.all_append, w_t7, ← List.take_append_drop 24 (((((((words1.drop 24).drop 24).drop 24).drop 24).drop 24).drop 24).drop 24), List.all_append, w_t8, ← List.take_append_drop 24 ((((((((words1.drop 24).drop 24).drop 24).drop 24).drop 24).drop 24).drop 24).drop 24), List.all_append, w_t9, ← List.take_append_drop 24 (((((((((words1.drop 24).drop 24).drop 24).drop 24).drop 24).drop 24).drop 24).drop 24).drop 24), List.all_append, w_t10, ← List.take_append_drop 24 ((((((((((words1.drop 24).drop 24).drop 24).drop 24).drop 24).drop 24).drop 24).drop 24).drop 24).drop 24), List.all_append, w_t11, ← List.take_append_drop 24 (((((((((((words1.drop 24).drop 24).drop 24).drop 24).drop 24).drop 24).drop 24).drop 24).drop 24).drop 24).drop 24), List.all_append, w_t12, ← List.take_append_drop 24 ((((((((((((words1.drop 24).drop 24).drop 24).drop 24).drop 24).drop 24).drop 24).drop 24).drop 24).drop 24).drop 24).drop 24), List.all_append, w_t13, w_t14]
  rfl
set_option maxRecDepth 65536 in
theorem w_rest : rest_1_c.before args0 about1 = true := by decide +kernel
set_option maxRecDepth 65536 in
theorem w_case : (Jvm.Cond.and given_1 narrow_1).before args0 about1 = true := by decide +kernel
set_option maxRecDepth 65536 in
theorem w_consts : constsHeld consts_1 about1 := Jvm.Lit.constsHeldB_iff.mp (by decide +kernel)
theorem w_applies : (headSpec (Jvm.Cond.code x code maxLocals ret :: tables_1) room_1).applies x e0.platform about1 = true :=
  (Spec.applies_iff w_frames).mpr ⟨w_running, w_runnable, w_alone, w_named, w_hears, w_ripe, w_room, w_tables⟩
theorem atStart : AtStart classFile x code maxLocals ret World_1 tables_1 room_1 Calls_1 rest_1 Pre_1 launch0 p0 e0 about1 theMethod args0 below0 :=
  ⟨lists_1, trivial, launch0.admits_env _ _ _, launch0.least_env, fairChoices_fair.cas, fairChoices_fair.clock, w_frames, w_args, w_heap, w_applies, ⟨⟨41, k41, 4, by decide +kernel, rfl, rfl, _, rfl, rfl⟩, ⟨w_consts, trivial⟩⟩, w_rest, w_case⟩
end start1
theorem witness_1 : WitnessClaimed_1 := ⟨start1.p0, start1.e0, start1.about1, start1.theMethod, start1.args0, start1.below0, start1.atStart⟩
end Jvm.Pilot.@@N@@
