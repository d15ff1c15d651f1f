import JvmDerived
import JvmDerived.Pilot.@@N@@Statement
import JvmDerived.Pilot.@@N@@Code
set_option linter.unusedVariables false
set_option linter.unusedSimpArgs false
/- laws to paste: Road.backV (cut by pick.py; bodies as the Statement names them) -/
namespace Jvm.Pilot.@@N@@
namespace StrChars
open Jvm Sem ClassFile Op Lib Jvm.Stand Jvm.Free.XT Jvm.Free.ALB Jvm.Free.JM Jvm.Free
open Jvm.Lib.Cold (StaticIs)
/-- a char array whose places are chars -/
def Ch (a : Addr) (A : Cell) (U : State) : Prop := Arr .char a A U ∧ Typed .char A
theorem Ch.mv {a : Addr} {A : Cell} {U U' : State} (h : Ch a A U) (hal : U.vm.Alike U'.vm) (hh : U'.heap = U.heap) : Ch a A U' := ⟨h.1.mv hal hh, h.2⟩
theorem Ch.keep {a : Addr} {A : Cell} {U U' : State} (h : Ch a A U) (hal : U.vm.Alike U'.vm) (hk : U'.heap[a]? = some A) : Ch a A U' := ⟨h.1.keep hal hk, h.2⟩
/-- what place i of a char[]'s cell holds -/
def cv (A : Cell) (i : Nat) : Int32 := match A.slots[i]? with | some (.int x) => x | _ => 0
theorem Ch.get {a : Addr} {A : Cell} {U : State} (h : Ch a A U) {i : Nat} (hi : i < A.slots.size) : A.slots[i]? = some (.int (cv A i)) := by
  have e := Array.getElem?_eq_getElem hi
  have f := h.2 i _ e
  unfold cv; rw [e]
  generalize A.slots[i] = v at f
  cases v <;> simp [fits] at f ⊢
/-- the byte that i2b leaves of a char -/
def lo8 (x : Int32) : Int32 := x.toInt8.toInt32
theorem fits_lo8 (y : Int32) : fits .byte (.int (lo8 y)) = true := by
  have h1 := y.toInt8.le_toInt
  have h2 := y.toInt8.toInt_lt
  simp only [lo8, fits, Bool.and_eq_true, decide_eq_true_eq, Int32.le_iff_toInt_le, Int8.toInt_toInt32, show (-128 : Int32).toInt = -128 from by decide, show (127 : Int32).toInt = 127 from by decide]
  omega
/-- A' is A but that each place j of lo .. hi - 1 holds f j -/
def Laid (A A' : Cell) (lo hi : Nat) (f : Nat → Value) : Prop := A'.cls = A.cls ∧ A'.vm = A.vm ∧ A'.slots.size = A.slots.size ∧ ∀ i, A'.slots[i]? = if lo ≤ i ∧ i < hi then some (f i) else A.slots[i]?
theorem Laid.zero (A : Cell) (lo : Nat) (f : Nat → Value) : Laid A A lo (lo + 0) f := ⟨rfl, rfl, rfl, fun i => by rw [if_neg (by omega)]⟩
theorem Laid.step {A Ak : Cell} {lo k : Nat} {f : Nat → Value} {v : Value} (h : Laid A Ak lo k f) (hlo : lo ≤ k) (hk : k < Ak.slots.size) (hv : v = f k) : Laid A (Ak.setSlot k v) lo (k + 1) f := by
  refine ⟨h.1, h.2.1, by simpa [Cell.setSlot] using h.2.2.1, fun i => ?_⟩
  by_cases e : k = i
  · subst e; rw [Cell.slots_setSlot_self v hk, if_pos (by omega), hv]
  · rw [Cell.slots_setSlot_ne v e, h.2.2.2 i]
    by_cases q : lo ≤ i ∧ i < k
    · rw [if_pos q, if_pos (by omega)]
    · rw [if_neg q, if_neg (by omega)]
def U16 : String := "java/lang/StringUTF16"
namespace Cmp5
def yN : MethodName := ⟨"java/lang/StringUTF16", "compress", "([CI[BII)I"⟩
abbrev yB : ByteArray := jdk_52_method_21_code
theorem d0 : decode yB 0 = .ok (.iconst 0, 1) := by decide +kernel
theorem d1 : decode yB 1 = .ok (.istore 5, 2) := by decide +kernel
theorem d3 : decode yB 3 = .ok (.iload 5, 2) := by decide +kernel
theorem d5 : decode yB 5 = .ok (.iload 4, 2) := by decide +kernel
theorem d7 : decode yB 7 = .ok (.if_icmp (.ge) 37, 3) := by decide +kernel
theorem d10 : decode yB 10 = .ok (.aload_n 0, 1) := by decide +kernel
theorem d11 : decode yB 11 = .ok (.iload_n 1, 1) := by decide +kernel
theorem d12 : decode yB 12 = .ok (.caload, 1) := by decide +kernel
theorem d13 : decode yB 13 = .ok (.istore 6, 2) := by decide +kernel
theorem d15 : decode yB 15 = .ok (.iload 6, 2) := by decide +kernel
theorem d17 : decode yB 17 = .ok (.sipush 255, 3) := by decide +kernel
theorem d20 : decode yB 20 = .ok (.if_icmp (.le) 6, 3) := by decide +kernel
theorem d26 : decode yB 26 = .ok (.aload_n 2, 1) := by decide +kernel
theorem d27 : decode yB 27 = .ok (.iload_n 3, 1) := by decide +kernel
theorem d28 : decode yB 28 = .ok (.iload 6, 2) := by decide +kernel
theorem d30 : decode yB 30 = .ok (.i2b, 1) := by decide +kernel
theorem d31 : decode yB 31 = .ok (.bastore, 1) := by decide +kernel
theorem d32 : decode yB 32 = .ok (.iinc 1 1, 3) := by decide +kernel
theorem d35 : decode yB 35 = .ok (.iinc 3 1, 3) := by decide +kernel
theorem d38 : decode yB 38 = .ok (.iinc 5 1, 3) := by decide +kernel
theorem d41 : decode yB 41 = .ok (.goto (-38), 3) := by decide +kernel
theorem d44 : decode yB 44 = .ok (.iload 4, 2) := by decide +kernel
theorem d46 : decode yB 46 = .ok (.ireturn, 1) := by decide +kernel
def site : List Cond := []
def tab : Cond := tabOf yN yB 7 (some .int) site
def P (b : Addr) (A : Cell) (d : Addr) (B : Cell) (o q len : Nat) (args : Array Value) (s : State) : Prop := args = #[.ref b, .int (Int32.ofNat o), .ref d, .int (Int32.ofNat q), .int (Int32.ofNat len)] ∧ Ch b A s ∧ Arr .byte d B s ∧ b ≠ d ∧ o + len ≤ A.slots.size ∧ q + len ≤ B.slots.size ∧ ∀ i, i < len → ¬ 255 < cv A (o + i)
def E (b : Addr) (A : Cell) (d : Addr) (B : Cell) (o q len : Nat) (r : Option Value) (s u : State) : Prop := r = some (.int (Int32.ofNat len)) ∧ ∃ B', Put d B' s u ∧ Laid B B' q (q + len) (fun j => Value.int (lo8 (cv A (o + (j - q)))))
/-- no char of the range above 255: len; the places written hold each char's low byte -/
theorem law (l : Launch) (b : Addr) (A : Cell) (d : Addr) (B : Cell) (o q len : Nat) : Law l yN 5 5 0 0 yB 7 (some .int) site (P b A d B o q len) (E b A d B o q len) (copyLocs d q len) 0 0 := by
  refine Law.of_walk (plainFor_of_name (by decide +kernel)) (by decide +kernel) (by decide +kernel) (by decide) (fun _ _ h => by rw [h.1]; rfl) (fun _ U U' hal hh h => ⟨h.1, h.2.1.mv hal hh, h.2.2.1.mv hal hh, h.2.2.2⟩) (fun r U U' V V' h1 hal h2 h => ⟨h.1, h.2.elim fun B' q => ⟨B', q.1.mv h1 h2, q.2⟩⟩) ?_
  intro p e s m args below meth c s₁ X0 hexec hbytes hml hret hlk hnm hown hh0 W hP
  obtain ⟨rfl, hA, hB, hne, l1, l2, hp⟩ := hP
  have c1 : Steps p.tables e below (s₁.setTop (entryFrame m #[.ref b, .int (Int32.ofNat o), .ref d, .int (Int32.ofNat q), .int (Int32.ofNat len)] 7)) (s₁.setTop (mkF m 0 #[.val (.ref b), .val (.int (Int32.ofNat o)), .val (.ref d), .val (.int (Int32.ofNat q)), .val (.int (Int32.ofNat len)), .unset, .unset] [])) := entry rfl
  have hA0 := hA.1.mv X0.warmed.alike hh0
  have hB0 := hB.mv X0.warmed.alike hh0
  have a31 := hA.1.2.2.2
  have c2 : Steps p.tables e below (s₁.setTop (entryFrame m #[.ref b, .int (Int32.ofNat o), .ref d, .int (Int32.ofNat q), .int (Int32.ofNat len)] 7)) (s₁.setTop (mkF m 3 #[.val (.ref b), .val (.int (Int32.ofNat o)), .val (.ref d), .val (.int (Int32.ofNat q)), .val (.int (Int32.ofNat len)), .val (.int 0), .unset] [])) := c1.trans (by
    refine iconstV X0.here hexec rfl 0 (hb hbytes d0) (by decide) ?_
    refine XS.istore X0.here hexec rfl (hb hbytes d1) rfl rfl ?_
    exact Steps.refl _)
  have loop : ∀ (r i : Nat), i + r = len → ∀ (z : Slot), (z = .unset ∨ ∃ w, z = .val w ∧ w.category = 1) → ∀ (Tl : State) (Bk : Cell), Stand p l e { frames := 0, locals := 0, cells := 0, slots := 0 } s m #[.ref b, .int (Int32.ofNat o), .ref d, .int (Int32.ofNat q), .int (Int32.ofNat len)] below meth c Tl ([] ++ copyLocs d q i) 0 0 → Put d Bk s₁ Tl → Laid B Bk q (q + i) (fun j => Value.int (lo8 (cv A (o + (j - q))))) →
      Steps p.tables e below (s₁.setTop (entryFrame m #[.ref b, .int (Int32.ofNat o), .ref d, .int (Int32.ofNat q), .int (Int32.ofNat len)] 7)) (Tl.setTop (mkF m 3 #[.val (.ref b), .val (.int (Int32.ofNat (o + i))), .val (.ref d), .val (.int (Int32.ofNat (q + i))), .val (.int (Int32.ofNat len)), .val (.int (Int32.ofNat i)), z] [])) → ∃ (T' : State) (B' : Cell) (z' : Slot), Stand p l e { frames := 0, locals := 0, cells := 0, slots := 0 } s m #[.ref b, .int (Int32.ofNat o), .ref d, .int (Int32.ofNat q), .int (Int32.ofNat len)] below meth c T' ([] ++ copyLocs d q len) 0 0 ∧ Put d B' s₁ T' ∧ Laid B B' q (q + len) (fun j => Value.int (lo8 (cv A (o + (j - q))))) ∧
      Steps p.tables e below (s₁.setTop (entryFrame m #[.ref b, .int (Int32.ofNat o), .ref d, .int (Int32.ofNat q), .int (Int32.ofNat len)] 7)) (T'.setTop (mkF m 3 #[.val (.ref b), .val (.int (Int32.ofNat (o + len))), .val (.ref d), .val (.int (Int32.ofNat (q + len))), .val (.int (Int32.ofNat len)), .val (.int (Int32.ofNat len)), z'] [])) := by
    intro r
    induction r with
    | zero =>
      intro i hi z hz Tl Bk Xl pl fl cl
      have hil : i = len := by omega
      rw [hil] at Xl fl cl
      exact ⟨Tl, Bk, z, Xl, pl, fl, cl⟩
    | succ r ih =>
      intro i hi z hz Tl Bk Xl pl fl cl
      have all := X0.warmed.alike.symm.trans Xl.warmed.alike
      have hAl := hA0.keep all (pl.other hne hA0.1)
      have hBk := hB0.like all pl.1 fl.1 fl.2.1 fl.2.2.1
      have hlt : q + i < Bk.slots.size := by rw [fl.2.2.1]; omega
      have c3 : Steps p.tables e below (s₁.setTop (entryFrame m #[.ref b, .int (Int32.ofNat o), .ref d, .int (Int32.ofNat q), .int (Int32.ofNat len)] 7)) (Tl.setTop (mkF m 12 #[.val (.ref b), .val (.int (Int32.ofNat (o + i))), .val (.ref d), .val (.int (Int32.ofNat (q + i))), .val (.int (Int32.ofNat len)), .val (.int (Int32.ofNat i)), z] [.int (Int32.ofNat (o + i)), .ref b])) := cl.trans (by
        refine XS.iload Xl.here hexec rfl (hb hbytes d3) rfl ?_
        refine XS.iload Xl.here hexec rfl (hb hbytes d5) rfl ?_
        refine XS.icmpNo Xl.here hexec rfl (hb hbytes d7) rfl (ii_ge_f (lt32 (by omega) (by omega))) ?_
        refine XS.aloadN Xl.here hexec rfl (hb hbytes d10) rfl rfl ?_
        refine XS.iloadN Xl.here hexec rfl (hb hbytes d11) rfl ?_
        exact Steps.refl _)
      have c4 : Steps p.tables e below (s₁.setTop (entryFrame m #[.ref b, .int (Int32.ofNat o), .ref d, .int (Int32.ofNat q), .int (Int32.ofNat len)] 7)) (Tl.setTop (mkF m 13 #[.val (.ref b), .val (.int (Int32.ofNat (o + i))), .val (.ref d), .val (.int (Int32.ofNat (q + i))), .val (.int (Int32.ofNat len)), .val (.int (Int32.ofNat i)), z] [.int (cv A (o + i))])) := c3.trans (by
        refine Xl.aget hexec hAl rfl (hA.get (i := o + i) (by omega)) rfl rfl (hb hbytes d12) ?_
        exact Steps.refl _)
      have c5 : Steps p.tables e below (s₁.setTop (entryFrame m #[.ref b, .int (Int32.ofNat o), .ref d, .int (Int32.ofNat q), .int (Int32.ofNat len)] 7)) (Tl.setTop (mkF m 15 #[.val (.ref b), .val (.int (Int32.ofNat (o + i))), .val (.ref d), .val (.int (Int32.ofNat (q + i))), .val (.int (Int32.ofNat len)), .val (.int (Int32.ofNat i)), .val (.int (cv A (o + i)))] [])) := c4.trans (by
        refine XS.istoreS Xl.here hexec rfl (hb hbytes d13) rfl rfl hz ?_
        exact Steps.refl _)
      have c6 : Steps p.tables e below (s₁.setTop (entryFrame m #[.ref b, .int (Int32.ofNat o), .ref d, .int (Int32.ofNat q), .int (Int32.ofNat len)] 7)) (Tl.setTop (mkF m 31 #[.val (.ref b), .val (.int (Int32.ofNat (o + i))), .val (.ref d), .val (.int (Int32.ofNat (q + i))), .val (.int (Int32.ofNat len)), .val (.int (Int32.ofNat i)), .val (.int (cv A (o + i)))] [.int (lo8 (cv A (o + i))), .int (Int32.ofNat (q + i)), .ref d])) := c5.trans (by
        refine XS.iload Xl.here hexec rfl (hb hbytes d15) rfl ?_
        refine sipushV Xl.here hexec rfl 255 (hb hbytes d17) (by decide) ?_
        refine XS.icmpYes Xl.here hexec rfl (pc0 := 20) rfl (hb hbytes d20) rfl (ii_le_t (hp i (by omega))) (by decide) rfl ?_
        refine XS.aloadN Xl.here hexec rfl (hb hbytes d26) rfl rfl ?_
        refine XS.iloadN Xl.here hexec rfl (hb hbytes d27) rfl ?_
        refine XS.iload Xl.here hexec rfl (hb hbytes d28) rfl ?_
        refine i2b Xl.here hexec rfl (hb hbytes d30) rfl ?_
        exact Steps.refl _)
      obtain ⟨T7, X7, p7, st7⟩ := Xl.aput hexec hBk rfl hlt rfl (fits_lo8 (cv A (o + i))) (g := (mkF m 31 #[.val (.ref b), .val (.int (Int32.ofNat (o + i))), .val (.ref d), .val (.int (Int32.ofNat (q + i))), .val (.int (Int32.ofNat len)), .val (.int (Int32.ofNat i)), .val (.int (cv A (o + i)))] [.int (lo8 (cv A (o + i))), .int (Int32.ofNat (q + i)), .ref d])) rfl (rest := []) rfl (hb hbytes d31)
      have c8 : Steps p.tables e below (s₁.setTop (entryFrame m #[.ref b, .int (Int32.ofNat o), .ref d, .int (Int32.ofNat q), .int (Int32.ofNat len)] 7)) (T7.setTop (mkF m 32 #[.val (.ref b), .val (.int (Int32.ofNat (o + i))), .val (.ref d), .val (.int (Int32.ofNat (q + i))), .val (.int (Int32.ofNat len)), .val (.int (Int32.ofNat i)), .val (.int (cv A (o + i)))] [])) := c6.trans (st7 _ (Steps.refl _))
      have c9 : Steps p.tables e below (s₁.setTop (entryFrame m #[.ref b, .int (Int32.ofNat o), .ref d, .int (Int32.ofNat q), .int (Int32.ofNat len)] 7)) (T7.setTop (mkF m 3 #[.val (.ref b), .val (.int (Int32.ofNat (o + i) + 1)), .val (.ref d), .val (.int (Int32.ofNat (q + i) + 1)), .val (.int (Int32.ofNat len)), .val (.int (Int32.ofNat i + 1)), .val (.int (cv A (o + i)))] [])) := c8.trans (by
        refine iincV X7.here hexec rfl 1 (hb hbytes d32) (by decide) rfl rfl ?_
        refine iincV X7.here hexec rfl 1 (hb hbytes d35) (by decide) rfl rfl ?_
        refine iincV X7.here hexec rfl 1 (hb hbytes d38) (by decide) rfl rfl ?_
        refine XS.goto X7.here hexec rfl (pc0 := 41) rfl (hb hbytes d41) (by decide) rfl ?_
        exact Steps.refl _)
      have c10 : Steps p.tables e below (s₁.setTop (entryFrame m #[.ref b, .int (Int32.ofNat o), .ref d, .int (Int32.ofNat q), .int (Int32.ofNat len)] 7)) (T7.setTop (mkF m 3 #[.val (.ref b), .val (.int (Int32.ofNat (o + (i + 1)))), .val (.ref d), .val (.int (Int32.ofNat (q + (i + 1)))), .val (.int (Int32.ofNat len)), .val (.int (Int32.ofNat (i + 1))), .val (.int (cv A (o + i)))] [])) := by
        have := c9
        rw [succ32, succ32, succ32] at this
        exact this
      exact ih (i + 1) (by omega) _ (Or.inr ⟨_, rfl, rfl⟩) T7 _ (by rw [copyLocs_step, ← List.append_assoc]; exact X7) (pl.trans p7) (fl.step (by omega) hlt (by simp)) c10
  obtain ⟨T9, B9, z9, X9, p9, f9, g9⟩ := loop len 0 (by omega) .unset (Or.inl rfl) s₁ B (by simpa [copyLocs] using X0) ⟨hB0.1, fun _ _ => rfl, rfl⟩ (Laid.zero _ _ _) c2
  have c11 : Steps p.tables e below (s₁.setTop (entryFrame m #[.ref b, .int (Int32.ofNat o), .ref d, .int (Int32.ofNat q), .int (Int32.ofNat len)] 7)) (T9.setTop (mkF m 46 #[.val (.ref b), .val (.int (Int32.ofNat (o + len))), .val (.ref d), .val (.int (Int32.ofNat (q + len))), .val (.int (Int32.ofNat len)), .val (.int (Int32.ofNat len)), z9] [.int (Int32.ofNat len)])) := g9.trans (by
    refine XS.iload X9.here hexec rfl (hb hbytes d3) rfl ?_
    refine XS.iload X9.here hexec rfl (hb hbytes d5) rfl ?_
    refine XS.icmpYes X9.here hexec rfl (pc0 := 7) rfl (hb hbytes d7) rfl (ii_ge_t (nlt32 (by omega) (Nat.le_refl _))) (by decide) rfl ?_
    refine XS.iload X9.here hexec rfl (hb hbytes d44) rfl ?_
    exact Steps.refl _)
  exact ⟨T9, some (.int (Int32.ofNat len)), _, _, _, X9, by simp, rfl, rfl, (fun h => by cases h), ⟨rfl, B9, p9.from hh0, f9⟩, fun fs hl => c11.trans (X9.ireturnOut hexec hret rfl (Or.inl rfl) (hb hbytes d46) hl)⟩
end Cmp5
namespace Cmp3
def yN : MethodName := ⟨"java/lang/StringUTF16", "compress", "([CII)[B"⟩
abbrev yB : ByteArray := jdk_52_method_16_code
theorem d0 : decode yB 0 = .ok (.iload_n 2, 1) := by decide +kernel
theorem d1 : decode yB 1 = .ok (.newarray .byte, 2) := by decide +kernel
theorem d3 : decode yB 3 = .ok (.astore_n 3, 1) := by decide +kernel
theorem d4 : decode yB 4 = .ok (.aload_n 0, 1) := by decide +kernel
theorem d5 : decode yB 5 = .ok (.iload_n 1, 1) := by decide +kernel
theorem d6 : decode yB 6 = .ok (.aload_n 3, 1) := by decide +kernel
theorem d7 : decode yB 7 = .ok (.iconst 0, 1) := by decide +kernel
theorem d8 : decode yB 8 = .ok (.iload_n 2, 1) := by decide +kernel
theorem d9 : decode yB 9 = .ok (.invokestatic 115, 3) := by decide +kernel
theorem d12 : decode yB 12 = .ok (.istore 4, 2) := by decide +kernel
theorem d14 : decode yB 14 = .ok (.iload 4, 2) := by decide +kernel
theorem d16 : decode yB 16 = .ok (.iload_n 2, 1) := by decide +kernel
theorem d17 : decode yB 17 = .ok (.if_icmp (.eq) 40, 3) := by decide +kernel
theorem d57 : decode yB 57 = .ok (.aload_n 3, 1) := by decide +kernel
theorem d58 : decode yB 58 = .ok (.areturn, 1) := by decide +kernel
def site : List Cond := [.arrayClass .byte, Cmp5.tab] ++ staticW U16 115 Cmp5.yN
def tab : Cond := tabOf yN yB 6 (some (.array .byte)) site
def P (b : Addr) (A : Cell) (o len : Nat) (args : Array Value) (s : State) : Prop := args = #[.ref b, .int (Int32.ofNat o), .int (Int32.ofNat len)] ∧ Ch b A s ∧ o + len ≤ A.slots.size ∧ len ≤ 536870912 ∧ ∀ i, i < len → ¬ 255 < cv A (o + i)
def E (b : Addr) (A : Cell) (o len : Nat) (r : Option Value) (s u : State) : Prop := NewArr .byte "[B" len (fun j => .int (lo8 (cv A (o + j)))) r s u ∧ u.heap.size = s.heap.size + 1
/-- no char of the range above 255: a new byte[] of their low bytes -/
theorem law (l : Launch) (b : Addr) (A : Cell) (o len : Nat) : Law l yN 3 3 1 18 yB 6 (some (.array .byte)) site (P b A o len) (E b A o len) [] 1 len := by
  refine Law.of_walk (plainFor_of_name (by decide +kernel)) (by decide +kernel) (by decide +kernel) (by decide) (fun _ _ h => by rw [h.1]; rfl) (fun _ U U' hal hh h => ⟨h.1, h.2.1.mv hal hh, h.2.2⟩) (fun r U U' V V' h1 hal h2 h => ⟨NewArr.mv r U U' V V' h1 hal h2 h.1, by rw [h1, h2]; exact h.2⟩) ?_
  intro p e s m args below meth c s₁ X0 hexec hbytes hml hret hlk hnm hown hh0 W hP
  obtain ⟨rfl, hA, l1, l2, hp⟩ := hP
  have a31 := hA.1.2.2.2
  have c1 : Steps p.tables e below (s₁.setTop (entryFrame m #[.ref b, .int (Int32.ofNat o), .int (Int32.ofNat len)] 6)) (s₁.setTop (mkF m 0 #[.val (.ref b), .val (.int (Int32.ofNat o)), .val (.int (Int32.ofNat len)), .unset, .unset, .unset] [])) := entry rfl
  have c2 : Steps p.tables e below (s₁.setTop (entryFrame m #[.ref b, .int (Int32.ofNat o), .int (Int32.ofNat len)] 6)) (s₁.setTop (mkF m 1 #[.val (.ref b), .val (.int (Int32.ofNat o)), .val (.int (Int32.ofNat len)), .unset, .unset, .unset] [.int (Int32.ofNat len)])) := c1.trans (by
    refine XS.iloadN X0.here hexec rfl (hb hbytes d0) rfl ?_
    exact Steps.refl _)
  obtain ⟨T3, B3, X3, ba3, bs3, bv3, bh3, bf3, st3⟩ := X0.anew hexec (atype := .byte) (wk W (.arrayClass .byte)) rfl (by show len * 1 ≤ _; omega) (by omega) (g := (mkF m 1 #[.val (.ref b), .val (.int (Int32.ofNat o)), .val (.int (Int32.ofNat len)), .unset, .unset, .unset] [.int (Int32.ofNat len)])) rfl (hb hbytes d1) (rest := []) rfl (Nat.le_refl _) (by show 0 + len ≤ len; omega)
  rw [hh0] at ba3 st3
  have kp3 : XT.Kept s T3 := (XT.Kept.of_eq hh0).push bh3
  have hA3 := hA.keep X3.warmed.alike (kp3 _ _ hA.1.1)
  have hne : b ≠ s.heap.size := hA.1.ne
  have c4 : Steps p.tables e below (s₁.setTop (entryFrame m #[.ref b, .int (Int32.ofNat o), .int (Int32.ofNat len)] 6)) (T3.setTop (mkF m 3 #[.val (.ref b), .val (.int (Int32.ofNat o)), .val (.int (Int32.ofNat len)), .unset, .unset, .unset] [.ref s.heap.size])) := c2.trans (st3 _ (Steps.refl _))
  have c5 : Steps p.tables e below (s₁.setTop (entryFrame m #[.ref b, .int (Int32.ofNat o), .int (Int32.ofNat len)] 6)) (T3.setTop (mkF m 9 #[.val (.ref b), .val (.int (Int32.ofNat o)), .val (.int (Int32.ofNat len)), .val (.ref s.heap.size), .unset, .unset] [.int (Int32.ofNat len), .int 0, .ref s.heap.size, .int (Int32.ofNat o), .ref b])) := c4.trans (by
    refine XS.astoreN X3.here hexec rfl (hb hbytes d3) rfl rfl rfl ?_
    refine XS.aloadN X3.here hexec rfl (hb hbytes d4) rfl rfl ?_
    refine XS.iloadN X3.here hexec rfl (hb hbytes d5) rfl ?_
    refine XS.aloadN X3.here hexec rfl (hb hbytes d6) rfl rfl ?_
    refine iconstV X3.here hexec rfl 0 (hb hbytes d7) (by decide) ?_
    refine XS.iloadN X3.here hexec rfl (hb hbytes d8) rfl ?_
    exact Steps.refl _)
  obtain ⟨v6, T6, X6, E6, g6⟩ := X3.callS hexec (Cmp5.law l b A s.heap.size B3 o 0 len) hown (wks W (staticW U16 115 Cmp5.yN)) (wk W Cmp5.tab) (W := 0) (Nat.le_of_ble_eq_true rfl) (Nat.le_of_ble_eq_true rfl) (Nat.le_refl _) (by show 0 + len + 0 ≤ len; omega) (g := (mkF m 9 #[.val (.ref b), .val (.int (Int32.ofNat o)), .val (.int (Int32.ofNat len)), .val (.ref s.heap.size), .unset, .unset] [.int (Int32.ofNat len), .int (Int32.ofNat 0), .ref s.heap.size, .int (Int32.ofNat o), .ref b])) rfl (by rw [hml]; rfl) c5 (argsL := [.ref b, .int (Int32.ofNat o), .ref s.heap.size, .int (Int32.ofNat 0), .int (Int32.ofNat len)]) (rest := []) rfl rfl (by show 2 * 0 + 0 ≤ _; decide) (hb hbytes d9) (⟨rfl, hA3, ba3, hne, l1, by rw [bs3]; simp, hp⟩)
  obtain ⟨rfl, B6, p6, f6⟩ := E6
  have c7 : Steps p.tables e below (s₁.setTop (entryFrame m #[.ref b, .int (Int32.ofNat o), .int (Int32.ofNat len)] 6)) (T6.setTop (mkF m 12 #[.val (.ref b), .val (.int (Int32.ofNat o)), .val (.int (Int32.ofNat len)), .val (.ref s.heap.size), .unset, .unset] [.int (Int32.ofNat len)])) := g6
  have c8 : Steps p.tables e below (s₁.setTop (entryFrame m #[.ref b, .int (Int32.ofNat o), .int (Int32.ofNat len)] 6)) (T6.setTop (mkF m 58 #[.val (.ref b), .val (.int (Int32.ofNat o)), .val (.int (Int32.ofNat len)), .val (.ref s.heap.size), .val (.int (Int32.ofNat len)), .unset] [.ref s.heap.size])) := c7.trans (by
    refine XS.istore X6.here hexec rfl (hb hbytes d12) rfl rfl ?_
    refine XS.iload X6.here hexec rfl (hb hbytes d14) rfl ?_
    refine XS.iloadN X6.here hexec rfl (hb hbytes d16) rfl ?_
    refine XS.icmpYes X6.here hexec rfl (pc0 := 17) rfl (hb hbytes d17) rfl (ii_eq_t rfl) (by decide) rfl ?_
    refine XS.aloadN X6.here hexec rfl (hb hbytes d57) rfl rfl ?_
    exact Steps.refl _)
  have X8 := X6.wide (L' := []) (cells' := 1) (slots' := len) (fun x hx hlt => by
    simp only [List.nil_append, copyLocs, List.mem_map, List.mem_range] at hx
    obtain ⟨i, -, rfl⟩ := hx
    exact absurd hlt (Nat.lt_irrefl _)) (Nat.le_refl _) (by omega)
  exact ⟨T6, some (.ref s.heap.size), _, _, _, X8, rfl, rfl, rfl, (fun h => by cases h), ⟨⟨rfl, B6, ba3.like (X3.warmed.alike.symm.trans X6.warmed.alike) p6.1 f6.1 f6.2.1 f6.2.2.1, f6.2.1.trans bv3, by rw [X6.warmed.alike.findClass, f6.1]; exact bf3, by rw [f6.2.2.1, bs3]; simp, fun j hj => by rw [f6.2.2.2 j, if_pos (by omega)]; rfl, kp3.put p6 (Nat.le_refl _)⟩, by rw [p6.2.2, bh3, hh0]; simp⟩, fun fs hl => c8.trans (X8.areturnOut hexec rfl hret rfl (hb hbytes d58) hl)⟩
end Cmp3
namespace CodL
def yN : MethodName := ⟨"java/lang/StringUTF16", "coderFromArrayLen", "([BI)B"⟩
abbrev yB : ByteArray := jdk_52_method_15_code
theorem d0 : decode yB 0 = .ok (.iload_n 1, 1) := by decide +kernel
theorem d1 : decode yB 1 = .ok (.aload_n 0, 1) := by decide +kernel
theorem d2 : decode yB 2 = .ok (.arraylength, 1) := by decide +kernel
theorem d3 : decode yB 3 = .ok (.isub, 1) := by decide +kernel
theorem d4 : decode yB 4 = .ok (.bipush 31, 2) := by decide +kernel
theorem d6 : decode yB 6 = .ok (.iushr, 1) := by decide +kernel
theorem d7 : decode yB 7 = .ok (.i2b, 1) := by decide +kernel
theorem d8 : decode yB 8 = .ok (.ireturn, 1) := by decide +kernel
def site : List Cond := []
def tab : Cond := tabOf yN yB 2 (some .byte) site
def P (d : Addr) (B : Cell) (args : Array Value) (s : State) : Prop := args = #[.ref d, .int (Int32.ofNat B.slots.size)] ∧ Arr .byte d B s
def E (r : Option Value) (s u : State) : Prop := XT.PureE (some (.int 0)) r s u
/-- an array as long as the number of chars: LATIN1 -/
theorem law (l : Launch) (d : Addr) (B : Cell) : Law l yN 2 2 0 0 yB 2 (some .byte) site (P d B) E [] 0 0 := by
  refine Law.of_walk (plainFor_of_name (by decide +kernel)) (by decide +kernel) (by decide +kernel) (by decide) (fun _ _ h => by rw [h.1]; rfl) (fun _ U U' hal hh h => ⟨h.1, h.2.mv hal hh⟩) (fun r U U' V V' h1 hal h2 h => XT.PureE.mv r U U' V V' h1 hal h2 h) ?_
  intro p e s m args below meth c s₁ X0 hexec hbytes hml hret hlk hnm hown hh0 W hP
  obtain ⟨rfl, hB⟩ := hP
  have hB0 := hB.mv X0.warmed.alike hh0
  have c1 : Steps p.tables e below (s₁.setTop (entryFrame m #[.ref d, .int (Int32.ofNat B.slots.size)] 2)) (s₁.setTop (mkF m 0 #[.val (.ref d), .val (.int (Int32.ofNat B.slots.size))] [])) := entry rfl
  have c2 : Steps p.tables e below (s₁.setTop (entryFrame m #[.ref d, .int (Int32.ofNat B.slots.size)] 2)) (s₁.setTop (mkF m 2 #[.val (.ref d), .val (.int (Int32.ofNat B.slots.size))] [.ref d, .int (Int32.ofNat B.slots.size)])) := c1.trans (by
    refine XS.iloadN X0.here hexec rfl (hb hbytes d0) rfl ?_
    refine XS.aloadN X0.here hexec rfl (hb hbytes d1) rfl rfl ?_
    exact Steps.refl _)
  have c3 : Steps p.tables e below (s₁.setTop (entryFrame m #[.ref d, .int (Int32.ofNat B.slots.size)] 2)) (s₁.setTop (mkF m 8 #[.val (.ref d), .val (.int (Int32.ofNat B.slots.size))] [.int (lo8 (ushr (Int32.ofNat B.slots.size - Int32.ofNat B.slots.size) 31))])) := c2.trans (by
    refine X0.alen hexec hB0 rfl rfl (hb hbytes d2) ?_
    refine XS.isub X0.here hexec rfl (hb hbytes d3) rfl ?_
    refine bipushV X0.here hexec rfl 31 (hb hbytes d4) (by decide) ?_
    refine iushr X0.here hexec rfl (hb hbytes d6) rfl ?_
    refine i2b X0.here hexec rfl (hb hbytes d7) rfl ?_
    exact Steps.refl _)
  have e0 : lo8 (ushr (Int32.ofNat B.slots.size - Int32.ofNat B.slots.size) 31) = 0 := by rw [Int32.sub_self]; decide
  rw [e0] at c3
  exact ⟨s₁, some (.int 0), _, _, _, X0, rfl, rfl, rfl, (fun h => by cases h), ⟨rfl, hh0⟩, fun fs hl => c3.trans (X0.ireturnOut hexec hret rfl (Or.inr (Or.inr (Or.inl rfl))) (hb hbytes d8) hl)⟩
end CodL
/-- the String at a is Latin-1 over a new byte[] (the heap's one new cell): the low bytes of the len chars of A from o on; every cell but a is kept -/
def Got (a : Addr) (D : Cell) (fV fC : Field) (A : Cell) (o len : Nat) (r : Option Value) (s u : State) : Prop := r = none ∧ ∃ D' V : Cell, Blank "java/lang/String" a D' u ∧ Same D D' [fV.slot, fC.slot] ∧ D'.slots[fV.slot]? = some (.ref s.heap.size) ∧ D'.slots[fC.slot]? = some (.int 0) ∧ Arr .byte s.heap.size V u ∧ V.vm = .none ∧ u.vm.findClass "[B" = some V.cls ∧ V.slots.size = len ∧ (∀ j, j < len → V.slots[j]? = some (.int (lo8 (cv A (o + j))))) ∧ (∀ (y : Addr) (c : Cell), y ≠ a → s.heap[y]? = some c → u.heap[y]? = some c) ∧ u.heap.size = s.heap.size + 1
theorem Got.mv {a : Addr} {D A : Cell} {fV fC : Field} {o len : Nat} : ∀ r (U U' V V' : State), U'.heap = U.heap → V.vm.Alike V'.vm → V'.heap = V.heap → Got a D fV fC A o len r U V → Got a D fV fC A o len r U' V' :=
  fun r U U' V V' h1 hal h2 ⟨e0, D', X, a1, a2, a3, a4, a5, a6, a7, a8, a9, a10, a11⟩ => ⟨e0, D', X, a1.mv hal h2, a2, by rw [h1]; exact a3, a4, by rw [h1]; exact a5.mv hal h2, a6, by rw [hal.findClass]; exact a7, a8, a9, by rw [h1, h2]; exact a10, by rw [h1, h2]; exact a11⟩
namespace New4
def yN : MethodName := ⟨"java/lang/String", "<init>", "([CIILjava/lang/Void;)V"⟩
abbrev yB : ByteArray := jdk_42_method_149_code
theorem d0 : decode yB 0 = .ok (.aload_n 0, 1) := by decide +kernel
theorem d1 : decode yB 1 = .ok (.invokespecial 1, 3) := by decide +kernel
theorem d4 : decode yB 4 = .ok (.iload_n 3, 1) := by decide +kernel
theorem d5 : decode yB 5 = .ok (.ifCond (.ne) 22, 3) := by decide +kernel
theorem d27 : decode yB 27 = .ok (.getstatic 38, 3) := by decide +kernel
theorem d30 : decode yB 30 = .ok (.ifCond (.eq) 28, 3) := by decide +kernel
theorem d33 : decode yB 33 = .ok (.aload_n 1, 1) := by decide +kernel
theorem d34 : decode yB 34 = .ok (.iload_n 2, 1) := by decide +kernel
theorem d35 : decode yB 35 = .ok (.iload_n 3, 1) := by decide +kernel
theorem d36 : decode yB 36 = .ok (.invokestatic 177, 3) := by decide +kernel
theorem d39 : decode yB 39 = .ok (.astore 5, 2) := by decide +kernel
theorem d41 : decode yB 41 = .ok (.aload_n 0, 1) := by decide +kernel
theorem d42 : decode yB 42 = .ok (.aload 5, 2) := by decide +kernel
theorem d44 : decode yB 44 = .ok (.iload_n 3, 1) := by decide +kernel
theorem d45 : decode yB 45 = .ok (.invokestatic 47, 3) := by decide +kernel
theorem d48 : decode yB 48 = .ok (.putfield 15, 3) := by decide +kernel
theorem d51 : decode yB 51 = .ok (.aload_n 0, 1) := by decide +kernel
theorem d52 : decode yB 52 = .ok (.aload 5, 2) := by decide +kernel
theorem d54 : decode yB 54 = .ok (.putfield 9, 3) := by decide +kernel
theorem d57 : decode yB 57 = .ok (.return_, 1) := by decide +kernel
def site : List Cond := [.fieldLink "java/lang/String" 38 "java/lang/String" "COMPACT_STRINGS" "Z", Cmp3.tab, CodL.tab, .laysFinal "java/lang/String" "java/lang/String" "value" "[B", .fieldLink "java/lang/String" 9 "java/lang/String" "value" "[B", .laysFinal "java/lang/String" "java/lang/String" "coder" "B", .fieldLink "java/lang/String" 15 "java/lang/String" "coder" "B"] ++ objW "java/lang/String" 1 ++ staticW "java/lang/String" 177 Cmp3.yN ++ staticW "java/lang/String" 47 CodL.yN
def tab : Cond := tabOf yN yB 6 none site
def P (a : Addr) (D : Cell) (fV fC : Field) (b : Addr) (A : Cell) (z : Int32) (o len : Nat) (args : Array Value) (s : State) : Prop := args = #[.ref a, .ref b, .int (Int32.ofNat o), .int (Int32.ofNat len), .null] ∧ Blank "java/lang/String" a D s ∧ Found "java/lang/String" "value" "[B" fV s ∧ Found "java/lang/String" "coder" "B" fC s ∧ Ch b A s ∧ StaticIs s "java/lang/String" "COMPACT_STRINGS" "Z" (.int z) ∧ ¬ z = 0 ∧ 0 < len ∧ o + len ≤ A.slots.size ∧ len ≤ 536870912 ∧ ∀ i, i < len → ¬ 255 < cv A (o + i)
def E (a : Addr) (D : Cell) (fV fC : Field) (A : Cell) (o len : Nat) (r : Option Value) (s u : State) : Prop := Got a D fV fC A o len r s u
/-- len > 0, no char of the range above 255: a Latin-1 String of their low bytes -/
theorem law (l : Launch) (a : Addr) (D : Cell) (fV fC : Field) (b : Addr) (A : Cell) (z : Int32) (o len : Nat) : Law l yN 5 4 2 35 yB 6 none site (P a D fV fC b A z o len) (E a D fV fC A o len) [⟨a, fC.slot⟩, ⟨a, fV.slot⟩] 1 len := by
  refine Law.of_walk (plainFor_of_name (by decide +kernel)) (by decide +kernel) (by decide +kernel) (by decide) (fun _ _ h => by rw [h.1]; rfl) (fun _ U U' hal hh h => ⟨h.1, h.2.1.mv hal hh, h.2.2.1.al hal, h.2.2.2.1.al hal, h.2.2.2.2.1.mv hal hh, h.2.2.2.2.2.1.there hal hh, h.2.2.2.2.2.2⟩) (fun r U U' V V' h1 hal h2 h => Got.mv r U U' V V' h1 hal h2 h) ?_
  intro p e s m args below meth c s₁ X0 hexec hbytes hml hret hlk hnm hown hh0 W hP
  obtain ⟨rfl, hB, f1, f2, hA, s1, hz, l0, l1, l2, hp⟩ := hP
  have a31 := hA.1.2.2.2
  have c1 : Steps p.tables e below (s₁.setTop (entryFrame m #[.ref a, .ref b, .int (Int32.ofNat o), .int (Int32.ofNat len), .null] 6)) (s₁.setTop (mkF m 0 #[.val (.ref a), .val (.ref b), .val (.int (Int32.ofNat o)), .val (.int (Int32.ofNat len)), .val .null, .unset] [])) := entry rfl
  have c2 : Steps p.tables e below (s₁.setTop (entryFrame m #[.ref a, .ref b, .int (Int32.ofNat o), .int (Int32.ofNat len), .null] 6)) (s₁.setTop (mkF m 1 #[.val (.ref a), .val (.ref b), .val (.int (Int32.ofNat o)), .val (.int (Int32.ofNat len)), .val .null, .unset] [.ref a])) := c1.trans (by
    refine XS.aloadN X0.here hexec rfl (hb hbytes d0) rfl rfl ?_
    exact Steps.refl _)
  obtain ⟨T3, X3, q3, st3⟩ := X0.oinit hexec hown (wks W (objW "java/lang/String" 1)) (g := (mkF m 1 #[.val (.ref a), .val (.ref b), .val (.int (Int32.ofNat o)), .val (.int (Int32.ofNat len)), .val .null, .unset] [.ref a])) rfl (by rw [hml]; rfl) (rest := []) rfl (hb hbytes d1) (W := 0) (by show 2 * 0 + 0 ≤ _; decide) (Nat.le_of_ble_eq_true rfl) (Nat.le_of_ble_eq_true rfl)
  have hh3 := q3.trans hh0
  have c4 : Steps p.tables e below (s₁.setTop (entryFrame m #[.ref a, .ref b, .int (Int32.ofNat o), .int (Int32.ofNat len), .null] 6)) (T3.setTop (mkF m 27 #[.val (.ref a), .val (.ref b), .val (.int (Int32.ofNat o)), .val (.int (Int32.ofNat len)), .val .null, .unset] [])) := (c2.trans (st3 _ (Steps.refl _))).trans (by
    refine XS.iloadN X3.here hexec rfl (hb hbytes d4) rfl ?_
    refine XS.ifYes X3.here hexec rfl (pc0 := 5) rfl (hb hbytes d5) rfl (i0_ne_t (nz32 (by omega) l0)) (by decide) rfl ?_
    exact Steps.refl _)
  obtain ⟨T5, X5, q5, st5⟩ := X3.sget hexec hown (wk W (.fieldLink "java/lang/String" 38 "java/lang/String" "COMPACT_STRINGS" "Z")) s1 (fun _ _ h => by rw [hh3]; exact h) (g := (mkF m 27 #[.val (.ref a), .val (.ref b), .val (.int (Int32.ofNat o)), .val (.int (Int32.ofNat len)), .val .null, .unset] [])) rfl (hb hbytes d27)
  have hh5 := q5.trans hh3
  have c6 : Steps p.tables e below (s₁.setTop (entryFrame m #[.ref a, .ref b, .int (Int32.ofNat o), .int (Int32.ofNat len), .null] 6)) (T5.setTop (mkF m 30 #[.val (.ref a), .val (.ref b), .val (.int (Int32.ofNat o)), .val (.int (Int32.ofNat len)), .val .null, .unset] [.int z])) := c4.trans (st5 _ (Steps.refl _))
  have c7 : Steps p.tables e below (s₁.setTop (entryFrame m #[.ref a, .ref b, .int (Int32.ofNat o), .int (Int32.ofNat len), .null] 6)) (T5.setTop (mkF m 36 #[.val (.ref a), .val (.ref b), .val (.int (Int32.ofNat o)), .val (.int (Int32.ofNat len)), .val .null, .unset] [.int (Int32.ofNat len), .int (Int32.ofNat o), .ref b])) := c6.trans (by
    refine XS.ifNo X5.here hexec rfl (hb hbytes d30) rfl (i0_eq_f hz) ?_
    refine XS.aloadN X5.here hexec rfl (hb hbytes d33) rfl rfl ?_
    refine XS.iloadN X5.here hexec rfl (hb hbytes d34) rfl ?_
    refine XS.iloadN X5.here hexec rfl (hb hbytes d35) rfl ?_
    exact Steps.refl _)
  obtain ⟨v8, T8, X8, E8, g8⟩ := X5.callS hexec (Cmp3.law l b A o len) hown (wks W (staticW "java/lang/String" 177 Cmp3.yN)) (wk W Cmp3.tab) (W := 0) (Nat.le_of_ble_eq_true rfl) (Nat.le_of_ble_eq_true rfl) (Nat.le_refl _) (by show 0 + len ≤ len; omega) (g := (mkF m 36 #[.val (.ref a), .val (.ref b), .val (.int (Int32.ofNat o)), .val (.int (Int32.ofNat len)), .val .null, .unset] [.int (Int32.ofNat len), .int (Int32.ofNat o), .ref b])) rfl (by rw [hml]; rfl) c7 (argsL := [.ref b, .int (Int32.ofNat o), .int (Int32.ofNat len)]) (rest := []) rfl rfl (by show 2 * 0 + 0 ≤ _; decide) (hb hbytes d36) (⟨rfl, hA.mv X5.warmed.alike hh5, l1, l2, hp⟩)
  obtain ⟨e8, z8⟩ := E8
  obtain ⟨rfl, N, n1, n2, n3, n4, n5, n6⟩ := NewArr.mv _ T5 s _ _ hh5.symm (Vm.Alike.refl _) rfl e8
  rw [hh5] at z8
  have hB1 := hB.keep X8.warmed.alike (n6 _ _ hB.1)
  have hne : s.heap.size ≠ a := (Nat.ne_of_lt (Array.getElem?_eq_some_iff.mp hB.1).1).symm
  have c9 : Steps p.tables e below (s₁.setTop (entryFrame m #[.ref a, .ref b, .int (Int32.ofNat o), .int (Int32.ofNat len), .null] 6)) (T8.setTop (mkF m 39 #[.val (.ref a), .val (.ref b), .val (.int (Int32.ofNat o)), .val (.int (Int32.ofNat len)), .val .null, .unset] [.ref s.heap.size])) := g8
  have c10 : Steps p.tables e below (s₁.setTop (entryFrame m #[.ref a, .ref b, .int (Int32.ofNat o), .int (Int32.ofNat len), .null] 6)) (T8.setTop (mkF m 45 #[.val (.ref a), .val (.ref b), .val (.int (Int32.ofNat o)), .val (.int (Int32.ofNat len)), .val .null, .val (.ref s.heap.size)] [.int (Int32.ofNat N.slots.size), .ref s.heap.size, .ref a])) := by
    have hc : Steps p.tables e below (s₁.setTop (entryFrame m #[.ref a, .ref b, .int (Int32.ofNat o), .int (Int32.ofNat len), .null] 6)) (T8.setTop (mkF m 45 #[.val (.ref a), .val (.ref b), .val (.int (Int32.ofNat o)), .val (.int (Int32.ofNat len)), .val .null, .val (.ref s.heap.size)] [.int (Int32.ofNat len), .ref s.heap.size, .ref a])) := c9.trans (by
      refine XS.astore X8.here hexec rfl (hb hbytes d39) rfl rfl rfl ?_
      refine XS.aloadN X8.here hexec rfl (hb hbytes d41) rfl rfl ?_
      refine XS.aload X8.here hexec rfl (hb hbytes d42) rfl rfl ?_
      refine XS.iloadN X8.here hexec rfl (hb hbytes d44) rfl ?_
      exact Steps.refl _)
    rw [n4]; exact hc
  obtain ⟨v11, T11, X11, E11, g11⟩ := X8.callS hexec (CodL.law l s.heap.size N) hown (wks W (staticW "java/lang/String" 47 CodL.yN)) (wk W CodL.tab) (W := 1) (Nat.le_of_ble_eq_true rfl) (Nat.le_of_ble_eq_true rfl) (Nat.le_refl _) (by show 0 + len + 0 ≤ len; omega) (g := (mkF m 45 #[.val (.ref a), .val (.ref b), .val (.int (Int32.ofNat o)), .val (.int (Int32.ofNat len)), .val .null, .val (.ref s.heap.size)] [.int (Int32.ofNat N.slots.size), .ref s.heap.size, .ref a])) rfl (by rw [hml]; rfl) c10 (argsL := [.ref s.heap.size, .int (Int32.ofNat N.slots.size)]) (rest := [.ref a]) rfl rfl (by show 2 * 0 + (1 + 0) ≤ _; decide) (hb hbytes d45) (⟨rfl, n1⟩)
  obtain ⟨rfl, q11⟩ := E11
  have hB11 := hB1.mv (X8.warmed.alike.symm.trans X11.warmed.alike) q11
  have c12 : Steps p.tables e below (s₁.setTop (entryFrame m #[.ref a, .ref b, .int (Int32.ofNat o), .int (Int32.ofNat len), .null] 6)) (T11.setTop (mkF m 48 #[.val (.ref a), .val (.ref b), .val (.int (Int32.ofNat o)), .val (.int (Int32.ofNat len)), .val .null, .val (.ref s.heap.size)] [.int 0, .ref a])) := g11
  obtain ⟨T13, X13, p13, bl13, sl13, st13⟩ := X11.finit hexec hown (wk W (.fieldLink "java/lang/String" 15 "java/lang/String" "coder" "B")) (Or.inr ⟨_, (wk W (.laysFinal "java/lang/String" "java/lang/String" "coder" "B"))⟩) (Or.inl ⟨rfl, hnm⟩) f2 (Or.inl rfl) hB11 (t := .byte) (by decide +kernel) rfl (g := (mkF m 48 #[.val (.ref a), .val (.ref b), .val (.int (Int32.ofNat o)), .val (.int (Int32.ofNat len)), .val .null, .val (.ref s.heap.size)] [.int 0, .ref a])) rfl (rest := []) rfl (hb hbytes d48)
  have c14 : Steps p.tables e below (s₁.setTop (entryFrame m #[.ref a, .ref b, .int (Int32.ofNat o), .int (Int32.ofNat len), .null] 6)) (T13.setTop (mkF m 54 #[.val (.ref a), .val (.ref b), .val (.int (Int32.ofNat o)), .val (.int (Int32.ofNat len)), .val .null, .val (.ref s.heap.size)] [.ref s.heap.size, .ref a])) := (c12.trans (st13 _ (Steps.refl _))).trans (by
    refine XS.aloadN X13.here hexec rfl (hb hbytes d51) rfl rfl ?_
    refine XS.aload X13.here hexec rfl (hb hbytes d52) rfl rfl ?_
    exact Steps.refl _)
  obtain ⟨T15, X15, p15, bl15, sl15, st15⟩ := X13.finit hexec hown (wk W (.fieldLink "java/lang/String" 9 "java/lang/String" "value" "[B")) (Or.inr ⟨_, (wk W (.laysFinal "java/lang/String" "java/lang/String" "value" "[B"))⟩) (Or.inl ⟨rfl, hnm⟩) f1 (Or.inl rfl) bl13 (t := (.array .byte)) (by decide +kernel) rfl (g := (mkF m 54 #[.val (.ref a), .val (.ref b), .val (.int (Int32.ofNat o)), .val (.int (Int32.ofNat len)), .val .null, .val (.ref s.heap.size)] [.ref s.heap.size, .ref a])) rfl (rest := []) rfl (hb hbytes d54)
  have c16 : Steps p.tables e below (s₁.setTop (entryFrame m #[.ref a, .ref b, .int (Int32.ofNat o), .int (Int32.ofNat len), .null] 6)) (T15.setTop (mkF m 57 #[.val (.ref a), .val (.ref b), .val (.int (Int32.ofNat o)), .val (.int (Int32.ofNat len)), .val .null, .val (.ref s.heap.size)] [])) := c14.trans (st15 _ (Steps.refl _))
  have ap := apart (Or.inr ⟨_, (wk W (.laysFinal "java/lang/String" "java/lang/String" "value" "[B"))⟩) (Or.inr ⟨_, (wk W (.laysFinal "java/lang/String" "java/lang/String" "coder" "B"))⟩) f1 f2 (t₁ := .array .byte) (t₂ := .byte) (by decide +kernel) (by decide +kernel) (by decide)
  have al := X8.warmed.alike.symm.trans X15.warmed.alike
  have n7 : T11.heap[s.heap.size]? = some N := by rw [q11]; exact n1.1
  exact ⟨T15, none, _, _, _, X15, by simp, rfl, by omega, (fun _ => rfl), ⟨rfl, _, N, bl15, ((Same.refl D _).set _ (by simp)).set _ (by simp), sl15, (Cell.slots_setSlot_ne _ ap).trans sl13, n1.keep al (p15.other hne (p13.other hne n7)), n2, by rw [al.findClass]; exact n3, n4, n5, fun y c h1 h2 => p15.other h1 (p13.other h1 (by rw [q11]; exact n6 y c h2)), by rw [p15.2.2, p13.2.2, q11]; exact z8⟩, fun fs hl => c16.trans (X15.returnOut hexec hret (hb hbytes d57) hl)⟩
end New4
namespace New1
def yN : MethodName := ⟨"java/lang/String", "<init>", "([C)V"⟩
abbrev yB : ByteArray := jdk_42_method_3_code
theorem d0 : decode yB 0 = .ok (.aload_n 0, 1) := by decide +kernel
theorem d1 : decode yB 1 = .ok (.aload_n 1, 1) := by decide +kernel
theorem d2 : decode yB 2 = .ok (.iconst 0, 1) := by decide +kernel
theorem d3 : decode yB 3 = .ok (.aload_n 1, 1) := by decide +kernel
theorem d4 : decode yB 4 = .ok (.arraylength, 1) := by decide +kernel
theorem d5 : decode yB 5 = .ok (.aconst_null, 1) := by decide +kernel
theorem d6 : decode yB 6 = .ok (.invokespecial 27, 3) := by decide +kernel
theorem d9 : decode yB 9 = .ok (.return_, 1) := by decide +kernel
def site : List Cond := [New4.tab] ++ initW "java/lang/String" 27 New4.yN
def tab : Cond := tabOf yN yB 2 none site
def P (a : Addr) (D : Cell) (fV fC : Field) (b : Addr) (A : Cell) (z : Int32) (args : Array Value) (s : State) : Prop := args = #[.ref a, .ref b] ∧ Blank "java/lang/String" a D s ∧ Found "java/lang/String" "value" "[B" fV s ∧ Found "java/lang/String" "coder" "B" fC s ∧ Ch b A s ∧ StaticIs s "java/lang/String" "COMPACT_STRINGS" "Z" (.int z) ∧ ¬ z = 0 ∧ 0 < A.slots.size ∧ A.slots.size ≤ 536870912 ∧ ∀ i, i < A.slots.size → ¬ 255 < cv A i
def E (a : Addr) (D : Cell) (fV fC : Field) (A : Cell) (r : Option Value) (s u : State) : Prop := Got a D fV fC A 0 A.slots.size r s u
/-- new String(chars), not empty, no char above 255: a Latin-1 String of their low bytes -/
theorem law (l : Launch) (a : Addr) (D : Cell) (fV fC : Field) (b : Addr) (A : Cell) (z : Int32) : Law l yN 2 1 3 52 yB 2 none site (P a D fV fC b A z) (E a D fV fC A) [⟨a, fC.slot⟩, ⟨a, fV.slot⟩] 1 A.slots.size := by
  refine Law.of_walk (plainFor_of_name (by decide +kernel)) (by decide +kernel) (by decide +kernel) (by decide) (fun _ _ h => by rw [h.1]; rfl) (fun _ U U' hal hh h => ⟨h.1, h.2.1.mv hal hh, h.2.2.1.al hal, h.2.2.2.1.al hal, h.2.2.2.2.1.mv hal hh, h.2.2.2.2.2.1.there hal hh, h.2.2.2.2.2.2⟩) (fun r U U' V V' h1 hal h2 h => Got.mv r U U' V V' h1 hal h2 h) ?_
  intro p e s m args below meth c s₁ X0 hexec hbytes hml hret hlk hnm hown hh0 W hP
  obtain ⟨rfl, hB, f1, f2, hA, s1, hz, l0, l2, hp⟩ := hP
  have c1 : Steps p.tables e below (s₁.setTop (entryFrame m #[.ref a, .ref b] 2)) (s₁.setTop (mkF m 0 #[.val (.ref a), .val (.ref b)] [])) := entry rfl
  have c2 : Steps p.tables e below (s₁.setTop (entryFrame m #[.ref a, .ref b] 2)) (s₁.setTop (mkF m 6 #[.val (.ref a), .val (.ref b)] [.null, .int (Int32.ofNat A.slots.size), .int 0, .ref b, .ref a])) := c1.trans (by
    refine XS.aloadN X0.here hexec rfl (hb hbytes d0) rfl rfl ?_
    refine XS.aloadN X0.here hexec rfl (hb hbytes d1) rfl rfl ?_
    refine iconstV X0.here hexec rfl 0 (hb hbytes d2) (by decide) ?_
    refine XS.aloadN X0.here hexec rfl (hb hbytes d3) rfl rfl ?_
    refine X0.alen hexec (hA.1.mv X0.warmed.alike hh0) rfl rfl (hb hbytes d4) ?_
    refine XS.aconstNull X0.here hexec rfl (hb hbytes d5) ?_
    exact Steps.refl _)
  obtain ⟨v3, T3, X3, E3, g3⟩ := X0.callN hexec (New4.law l a D fV fC b A z 0 A.slots.size) rfl hown (wks W (initW "java/lang/String" 27 New4.yN)) (W New4.tab (by simp only [site, List.mem_cons, List.mem_append, true_or, or_true])) (W := 0) (Nat.le_of_ble_eq_true rfl) (Nat.le_of_ble_eq_true rfl) (Nat.le_refl _) (by show 0 + A.slots.size ≤ A.slots.size; omega) (g := (mkF m 6 #[.val (.ref a), .val (.ref b)] [.null, .int (Int32.ofNat A.slots.size), .int (Int32.ofNat 0), .ref b, .ref a])) rfl (by rw [hml]; rfl) c2 (argsL := [.ref b, .int (Int32.ofNat 0), .int (Int32.ofNat A.slots.size), .null]) (rest := []) rfl rfl (by show 2 * 0 + 0 ≤ _; decide) (hb hbytes d6) (⟨rfl, hB.mv X0.warmed.alike hh0, f1.al X0.warmed.alike, f2.al X0.warmed.alike, hA.mv X0.warmed.alike hh0, s1.there X0.warmed.alike hh0, hz, l0, by omega, l2, fun i hi => by rw [Nat.zero_add]; exact hp i hi⟩)
  have e0 := Got.mv _ s₁ s _ _ hh0.symm (Vm.Alike.refl _) rfl E3
  obtain rfl := e0.1
  have c4 : Steps p.tables e below (s₁.setTop (entryFrame m #[.ref a, .ref b] 2)) (T3.setTop (mkF m 9 #[.val (.ref a), .val (.ref b)] [])) := g3
  exact ⟨T3, none, _, _, _, X3, by simp, rfl, by omega, (fun _ => rfl), e0, fun fs hl => c4.trans (X3.returnOut hexec hret (hb hbytes d9) hl)⟩
theorem pays {l : Launch} {R : Room} {p : Program} {e : Env} {below : List Frame} {s : State} {sargs : Array Value} {len W : Nat} (a : Addr) (D : Cell) (fV fC : Field) (b : Addr) (A : Cell) (z : Int32) (htab : tab.before sargs s = true) (hfr : 4 ≤ R.frames) (hlo : W + 65 ≤ R.locals) :
    Back l R p e below s sargs yN len W (fun A₁ a₁ => A₁.cells + 1 ≤ R.cells ∧ A₁.slots + A.slots.size ≤ R.slots ∧ P a D fV fC b A z a₁ A₁.U) (fun A₁ _ v₁ B₁ => E a D fV fC A v₁ A₁.U B₁.U ∧ B₁.locs = A₁.locs ++ [⟨a, fC.slot⟩, ⟨a, fV.slot⟩] ∧ B₁.cells = A₁.cells + 1 ∧ B₁.slots = A₁.slots + A.slots.size) :=
  (law l a D fV fC b A z).pays htab hfr (by omega)
end New1
end StrChars
namespace StrChars.Road
open Jvm Sem ClassFile Op Lib Jvm.Stand Jvm.Free Jvm.Free.XT
open Jvm.Lib.Cold (StaticIs)
abbrev ST : String := "java/lang/String"
/-- every table word that New1's law asks, flat -/
abbrev words : List Jvm.Cond := [.code New1.yN New1.yB 2 none, .initialized ST, .methodLink ST 27 New4.yN, .instanceMethod New4.yN,
  .code New4.yN New4.yB 6 none, .fieldLink ST 38 ST "COMPACT_STRINGS" "Z", .laysFinal ST ST "value" "[B", .fieldLink ST 9 ST "value" "[B", .laysFinal ST ST "coder" "B", .fieldLink ST 15 ST "coder" "B",
  .methodLink ST 1 Lib.objectInit, .instanceMethod Lib.objectInit, .code Lib.objectInit ⟨#[0xb1]⟩ 1 none, .methodLink ST 177 Cmp3.yN, .static Cmp3.yN, .methodLink ST 47 CodL.yN, .static CodL.yN,
  .code Cmp3.yN Cmp3.yB 6 (some (.array .byte)), .initialized U16, .arrayClass .byte, .methodLink U16 115 Cmp5.yN, .static Cmp5.yN, .code Cmp5.yN Cmp5.yB 7 (some .int), .code CodL.yN CodL.yB 2 (some .byte)]
theorem tab_of {a : Array Value} {s : State} (h : ∀ w ∈ words, w.before a s = true) : New1.tab.before a s = true := by
  have h5 : Cmp5.tab.before a s = true := unparts (wk h (.code Cmp5.yN Cmp5.yB 7 (some .int))) (wks h (.initialized Cmp5.yN.cls :: Cmp5.site))
  have hc : CodL.tab.before a s = true := unparts (wk h (.code CodL.yN CodL.yB 2 (some .byte))) (wks h (.initialized CodL.yN.cls :: CodL.site))
  have q5 : ∀ w ∈ Cmp5.tab :: words, w.before a s = true := fun w hw => (List.mem_cons.mp hw).elim (fun e => e ▸ h5) (h w)
  have h3 : Cmp3.tab.before a s = true := unparts (wk q5 (.code Cmp3.yN Cmp3.yB 6 (some (.array .byte)))) (wks q5 (.initialized Cmp3.yN.cls :: Cmp3.site))
  have q3 : ∀ w ∈ Cmp3.tab :: CodL.tab :: words, w.before a s = true := fun w hw => (List.mem_cons.mp hw).elim (fun e => e ▸ h3) fun hw => (List.mem_cons.mp hw).elim (fun e => e ▸ hc) (h w)
  have h4 : New4.tab.before a s = true := unparts (wk q3 (.code New4.yN New4.yB 6 none)) (wks q3 (.initialized New4.yN.cls :: New4.site))
  have q4 : ∀ w ∈ New4.tab :: words, w.before a s = true := fun w hw => (List.mem_cons.mp hw).elim (fun e => e ▸ h4) (h w)
  exact unparts (wk q4 (.code New1.yN New1.yB 2 none)) (wks q4 (.initialized New1.yN.cls :: New1.site))
/-- the words ride from the start Z to the walk's own state -/
theorem moved {Z s : State} {a0 args : Array Value} (hZ : Z.Warmed39 s.vm) (hw : ∀ d ∈ words, d.before a0 Z = true) : ∀ d ∈ words, d.before args s = true := fun d hd => by
  have q := hw d hd
  have t : ∀ d ∈ words, d = .arrayClass .byte ∨ (d.onTables && d.keepsFace) = true := by decide +kernel
  rcases t d hd with rfl | t
  · exact RoadKit.mvA hZ q
  · exact RoadKit.mv hZ q t
/-- WHAT COMES BACK, over the tables of the start Z: h the heap at the call, h' behind it -/
def Q (Z : State) (x : Addr) (A : Cell) (h : Heap) (v : Option Value) (h' : Heap) (L : List Loc) : Prop := v = none ∧ (∀ y ∈ L, y.base = x) ∧ RoadKit.Keep h h' [x] ∧ h'.size = h.size + 1 ∧ RoadKit.Exa Z h' x ST ∧ RoadKit.Fld Z h' x ST "value" "[B" (.ref h.size) ∧ RoadKit.Fld Z h' x ST "coder" "B" (.int 0) ∧
  (∃ V : Cell, RoadKit.Arr Z h' h.size V .byte ∧ V.vm = .none ∧ Z.vm.findClass "[B" = some V.cls ∧ V.slots.size = A.slots.size ∧ ∀ j, j < A.slots.size → V.slots[j]? = some (.int (lo8 (cv A j)))) ∧
  ∀ (O n d : String) (w : Value), RoadKit.Fld Z h x O n d w → RoadKit.slotOf Z O n d ≠ RoadKit.slotOf Z ST "value" "[B" → RoadKit.slotOf Z O n d ≠ RoadKit.slotOf Z ST "coder" "B" → RoadKit.Fld Z h' x O n d w
/-- **new String(chars) AT A CALL, IN THE ROAD'S FORM**: for specialBack behind newO: x the fresh String, b the char[] with the cell A -/
theorem back {p : Program} {l : Launch} {e : Env} {R : Room} {s : State} {args : Array Value} {below : List Frame} {len W : Nat} {Z : State} {a0 : Array Value} {h : Heap} (hZ : Z.Warmed39 s.vm) (hw : ∀ d ∈ words, d.before a0 Z = true) {kI : Nat} (wi : (Jvm.Cond.instantiable ST kI).before a0 Z = true)
    {x b : Addr} {A : Cell} {z : Int32} {v0 c0 : Value} (E : RoadKit.Exa Z h x ST) (V : RoadKit.Fld Z h x ST "value" "[B" v0) (C : RoadKit.Fld Z h x ST "coder" "B" c0) (K : RoadKit.Arr Z h b A .char) (hty : Typed .char A) (S : RoadKit.Sta Z h ST "COMPACT_STRINGS" "Z" (.int z)) (hz : ¬ z = 0)
    (l0 : 0 < A.slots.size) (l2 : A.slots.size ≤ 536870912) (hp : ∀ i, i < A.slots.size → ¬ 255 < cv A i) (hfr : 4 ≤ R.frames) (hlo : W + 65 ≤ R.locals) :
    Back l R p e below s args New1.yN len W (fun P a => a = #[.ref x, .ref b] ∧ P.U.heap = h ∧ P.cells + 1 ≤ R.cells ∧ P.slots + A.slots.size ≤ R.slots)
      (fun P _ v B => ∃ L, Q Z x A h v B.U.heap L ∧ B.locs = P.locs ++ L ∧ B.cells = P.cells + 1 ∧ B.slots = P.slots + A.slots.size) := by
  intro m meth c P g ig mk a X hg hsize hdg hW hn hp'
  obtain ⟨rfl, rfl, r1, r2⟩ := hp'
  have al : Z.vm.Alike P.U.vm := hZ.alike.trans X.warmed.alike
  obtain ⟨D, cfV, kV, iV, fV, hD, gV, stV, knV, obV, asV, slV⟩ := id V
  obtain ⟨D', cfC, kC, iC, fC, hD', gC, stC, -, -, asC, slC⟩ := id C
  cases hD.symm.trans hD'
  obtain ⟨D2, kD, e1, e2, e3, e4, e5⟩ := id E
  cases hD.symm.trans e1
  obtain ⟨c2, k2, i1, i2, i3, -⟩ := Cond.instantiable_spec wi
  cases e2.symm.trans i1
  cases e3.symm.trans i2
  obtain ⟨kU, u1, u2⟩ := al.2.2 _ _ e3
  have hB : Blank ST x D P.U := ⟨hD, ⟨knV, fun q hq => by rw [hq] at obV; cases obV⟩, by rw [al.findClass]; exact e2, kU, u1, by rw [u2]; exact i3, by rw [u2]; exact e5 i3⟩
  have F1 : Found ST "value" "[B" fV P.U := ⟨SBG.found_only al ⟨cfV, kV, iV, gV⟩, stV⟩
  have F2 : Found ST "coder" "B" fC P.U := ⟨SBG.found_only al ⟨cfC, kC, iC, gC⟩, stC⟩
  have hA : Ch b A P.U := ⟨⟨K.1, State.isArrayOf_alike al K.2.1, K.2.2, by omega⟩, hty⟩
  have hS : StaticIs P.U ST "COMPACT_STRINGS" "Z" (.int z) := by
    obtain ⟨cfS, iS, kS, fS, st, cS, t1, t2, t3, t4, t5, t6, t7⟩ := S
    exact StaticIs.there (s := { Z with heap := P.U.heap }) ⟨cfS, iS, kS, fS, st, cS, t1, t2, t3, t4, t5, (fun q => by rw [q] at t6; cases t6), t7⟩ al rfl
  obtain ⟨v, B, X', ⟨⟨hv, E', V', q1, q2, q3, q4, q5, q6, q7, q8, q9, q10, q11⟩, hl, hc, hs⟩, st⟩ := New1.pays x D fV fC b A z (tab_of (moved hZ hw)) hfr hlo m meth c P g ig mk _ X hg hsize hdg hW hn ⟨r1, r2, rfl, hB, F1, F2, hA, hS, hz, l0, l2, hp⟩
  have al' : Z.vm.Alike B.U.vm := hZ.alike.trans X'.warmed.alike
  have hsz : E'.slots.size = D.slots.size := by
    obtain ⟨-, -, -, kB, w1, w2, w3⟩ := q1
    obtain ⟨kB', y1, y2⟩ := al'.2.2 _ _ e3
    rw [q2.2.1] at w1
    cases w1.symm.trans y1
    rw [w3, e5 i3, y2]
  refine ⟨v, B, X', ⟨_, ⟨hv, ?_, ⟨by omega, fun y cy hy hn' => q10 y cy (by simpa using hn') hy, fun y cy hy => ?_⟩, q11, ⟨E', _, q1.1, by rw [q2.2.1]; exact e2, by rw [q2.2.1]; exact e3, by rw [q2.1]; exact obV, fun _ => by rw [hsz]; exact e5 i3⟩,
    ⟨E', cfV, kV, iV, fV, q1.1, gV, stV, by rw [q2.1]; exact knV, by rw [q2.1]; exact obV, by rw [q2.2.1]; exact asV, q3⟩, ⟨E', cfC, kC, iC, fC, q1.1, gC, stC, by rw [q2.1]; exact knV, by rw [q2.1]; exact obV, by rw [q2.2.1]; exact asC, q4⟩,
    ⟨V', ⟨q5.1, State.isArrayOf_alike al'.symm q5.2.1, q5.2.2.1⟩, q6, by rw [← al'.findClass]; exact q7, q8, fun j hj => by have := q9 j hj; rwa [Nat.zero_add] at this⟩, fun O n d w F n1 n2 => ?_⟩, hl, hc, hs⟩, st⟩
  · intro y hy
    simp only [List.mem_cons, List.not_mem_nil, or_false] at hy
    rcases hy with rfl | rfl <;> rfl
  · by_cases q : y = x
    · subst q
      cases hD.symm.trans hy
      exact ⟨E', q1.1, q2.2.1, q2.1, hsz⟩
    · exact ⟨cy, q10 y cy q hy, rfl, rfl, rfl⟩
  · obtain ⟨D3, cf, k, i, f, g1, g2, g3, g4, g5, g6, g7⟩ := F
    cases hD.symm.trans g1
    simp only [RoadKit.slotOf, g2, gV, gC, Option.map_some, Option.getD_some] at n1 n2
    exact ⟨E', cf, k, i, f, q1.1, g2, g3, by rw [q2.1]; exact g4, by rw [q2.1]; exact g5, by rw [q2.2.1]; exact g6, by rw [q2.2.2 f.slot (by simp [n1, n2])]; exact g7⟩
end StrChars.Road
namespace StrChars.Road
open Jvm Sem ClassFile Op Lib Jvm.Stand Jvm.Free Jvm.Free.XT
/-- WHAT COMES BACK, the byte[] as a list of values -/
def QA (Z : State) (x : Addr) (zn : Int32) (cs : List Int32) (h : Heap) (v : Option Value) (h' : Heap) (L : List Loc) : Prop := v = none ∧ (∀ y ∈ L, y.base = x) ∧ RoadKit.Keep h h' [x] ∧ h'.size = h.size + 1 ∧ RoadKit.Exa Z h' x ST ∧ RoadKit.Fld Z h' x ST "value" "[B" (.ref h.size) ∧ RoadKit.Fld Z h' x ST "coder" "B" (.int 0) ∧
  (∃ kb, Z.vm.findClass "[B" = some kb ∧ RoadKit.Arv Z h' h.size kb .byte zn (cs.map fun c => .int (lo8 c)) (.int 0)) ∧
  ∀ (O n d : String) (w : Value), RoadKit.Fld Z h x O n d w → RoadKit.slotOf Z O n d ≠ RoadKit.slotOf Z ST "value" "[B" → RoadKit.slotOf Z O n d ≠ RoadKit.slotOf Z ST "coder" "B" → RoadKit.Fld Z h' x O n d w
/-- **new String(chars) AT A CALL, THE ARRAYS AS LISTS**: the char[] at b holds cs, not empty, no char above 255 -/
theorem backArv {p : Program} {l : Launch} {e : Env} {R : Room} {s : State} {args : Array Value} {below : List Frame} {len W : Nat} {Z : State} {a0 : Array Value} {h : Heap} (hZ : Z.Warmed39 s.vm) (hw : ∀ d ∈ words, d.before a0 Z = true) {kI : Nat} (wi : (Jvm.Cond.instantiable ST kI).before a0 Z = true)
    {x b : Addr} {k : ClassId} {zn z : Int32} {cs : List Int32} {dv v0 c0 : Value} (E : RoadKit.Exa Z h x ST) (V : RoadKit.Fld Z h x ST "value" "[B" v0) (C : RoadKit.Fld Z h x ST "coder" "B" c0) (K : RoadKit.Arv Z h b k .char zn (cs.map Value.int) dv) (S : RoadKit.Sta Z h ST "COMPACT_STRINGS" "Z" (.int z)) (hz : ¬ z = 0)
    (hlen : zn.toNatClampNeg = cs.length) (h0 : 0 < cs.length) (hbig : cs.length ≤ 536870912) (hall : ∀ c ∈ cs, ¬ 255 < c) (hfr : 4 ≤ R.frames) (hlo : W + 65 ≤ R.locals) :
    Back l R p e below s args New1.yN len W (fun P a => a = #[.ref x, .ref b] ∧ P.U.heap = h ∧ P.cells + 1 ≤ R.cells ∧ P.slots + cs.length ≤ R.slots)
      (fun P _ v B => ∃ L, QA Z x zn cs h v B.U.heap L ∧ B.locs = P.locs ++ L ∧ B.cells = P.cells + 1 ∧ B.slots = P.slots + cs.length) := by
  obtain ⟨A, K1, K2, K3, K4, K5, K6⟩ := K
  have e : A.slots.size = cs.length := K3.trans hlen
  have hat : ∀ (i : Nat) (hi : i < cs.length), A.slots[i]? = some (.int cs[i]) := fun i hi => by rw [K5 i (by omega)]; simp [List.getD_eq_getElem?_getD, hi]
  have hcv : ∀ (i : Nat) (hi : i < cs.length), cv A i = cs[i] := fun i hi => by unfold cv; rw [hat i hi]
  have hty : Typed .char A := fun i v hv => by
    have hi : i < A.slots.size := (Array.getElem?_eq_some_iff.mp hv).1
    have q := K5 i hi
    rw [hv] at q
    rw [Option.some.inj q]
    exact K6 i hi
  refine Back.mono (back hZ hw wi E V C K1 hty S hz (by omega) (by omega) (fun i hi => by rw [hcv i (by omega)]; exact hall _ (List.getElem_mem _)) hfr hlo) (fun P a hp => ⟨hp.1, hp.2.1, hp.2.2.1, by rw [e]; exact hp.2.2.2⟩) (fun P a v B hp hq => ?_)
  obtain ⟨L, ⟨q1, q2, q3, q4, q5, q6, q7, ⟨V', v1, v2, v3, v4, v5⟩, q9⟩, hl, hc, hs⟩ := hq
  refine ⟨L, ⟨q1, q2, q3, q4, q5, q6, q7, ⟨V'.cls, v3, V', v1, rfl, by rw [v4, e, hlen], K4, fun i hi => ?_, fun i hi => ?_⟩, q9⟩, hl, hc, by rw [hs, e]⟩
  · have hi' : i < cs.length := by omega
    rw [v5 i (by omega), hcv i hi']; simp [List.getD_eq_getElem?_getD, hi']
  · have hi' : i < cs.length := by omega
    simp only [List.getD_eq_getElem?_getD, List.getElem?_map, List.getElem?_eq_getElem hi', Option.map_some, Option.getD_some]
    exact fits_lo8 _
end StrChars.Road
namespace StrChars.Road
open Jvm Sem ClassFile Op Lib Jvm.Stand Jvm.Free Jvm.Free.XT
/-- WHAT COMES BACK, in the writer's own shape -/
def QV (Z : State) (x : Addr) (N : Int32) (bs : List Int32) (h : Heap) (n0 : Nat) (v : Option Value) (h' : Heap) (L : List Loc) : Prop := v = none ∧ RoadKit.Fr n0 L ∧ RoadKit.Keep h h' [x] ∧ RoadKit.Exa Z h' x ST ∧ RoadKit.Fld Z h' x ST "coder" "B" (.int 0) ∧
  ∃ (t : Addr) (kb : ClassId), n0 ≤ t ∧ h.size ≤ t ∧ ¬ t = x ∧ RoadKit.Fld Z h' x ST "value" "[B" (.ref t) ∧ RoadKit.Arv Z h' t kb .byte N (bs.map Value.int) (.int 0)
/-- **new String(chars) AT A CALL, FOR THE WRITER**: a char[] of n known ints, each 0 to 255 -/
theorem backV {p : Program} {l : Launch} {e : Env} {R : Room} {s : State} {args : Array Value} {below : List Frame} {len W : Nat} {Z : State} {a0 : Array Value} {h : Heap} (hZ : Z.Warmed39 s.vm) (hw : ∀ d ∈ words, d.before a0 Z = true) {kI : Nat} (wi : (Jvm.Cond.instantiable ST kI).before a0 Z = true)
    {x b : Addr} {kC : ClassId} {cs bs : List Int32} {d v0 c0 : Value} {z N : Int32} {n n0 : Nat} (hx0 : n0 ≤ x) (hh0 : n0 ≤ h.size) (E : RoadKit.Exa Z h x ST) (V : RoadKit.Fld Z h x ST "value" "[B" v0) (C : RoadKit.Fld Z h x ST "coder" "B" c0) (K : RoadKit.Arv Z h b kC .char N (cs.map Value.int) d) (S : RoadKit.Sta Z h ST "COMPACT_STRINGS" "Z" (.int z)) (hz : ¬ z = 0)
    (hn : cs.length = n) (hN : N = Int32.ofNat n) (l0 : 0 < n) (l2 : n ≤ 4000) (hp : ∀ c ∈ cs, ¬ c < 0 ∧ ¬ (255 : Int32) < c) (hb : bs = cs.map (fun c => c.toInt8.toInt32)) (hfr : 4 ≤ R.frames) (hlo : W + 65 ≤ R.locals) :
    Back l R p e below s args (⟨"java/lang/String", "<init>", "([C)V"⟩ : MethodName) len W (fun P a => a = #[.ref x, .ref b] ∧ P.U.heap = h ∧ P.cells + 1 ≤ R.cells ∧ P.slots + n ≤ R.slots)
      (fun P _ v B => ∃ L, QV Z x N bs h n0 v B.U.heap L ∧ B.locs = P.locs ++ L ∧ B.cells = P.cells + 1 ∧ B.slots = P.slots + n) := by
  subst hn hN hb
  refine Back.mono (backArv hZ hw wi E V C K S hz (n32 (by omega)) l0 (by omega) (fun c hc => (hp c hc).2) hfr hlo) (fun P a hp => hp) (fun P a v B hp hq => ?_)
  obtain ⟨L, ⟨q1, q2, q3, q4, q5, q6, q7, ⟨kb, v1, v2⟩, q9⟩, hl, hc, hs⟩ := hq
  exact ⟨L, ⟨q1, fun y hy => by rw [q2 y hy]; exact hx0, q3, q5, q7, h.size, kb, hh0, Nat.le_refl _, Nat.ne_of_gt E.lt, q6, by rw [List.map_map]; exact v2⟩, hl, hc, hs⟩
end StrChars.Road
end Jvm.Pilot.@@N@@
namespace Jvm.OwnKit
open Jvm Jvm.ClassFile Sem Op Lib Jvm.Free Jvm.Stand Jvm.LawKit Jvm.RoadKit Bundle
/-- what is left to show of a walk that stands at S: it ends, and Q holds there -/
def Go (tb : Tables) (e : Env) (below : List Frame) (Q : Outcome → State → Prop) (S : State) : Prop :=
  ∃ (U : State) (o : Outcome), Steps tb e below S U ∧ U.status = .running ∧ Ended U below o ∧ Q o U
section
variable {tb : Tables} {e : Env} {below : List Frame} {Q : Outcome → State → Prop} {S S' : State}
theorem Go.st (f : ∀ {t : State}, Steps tb e below S' t → Steps tb e below S t) (h : Go tb e below Q S') : Go tb e below Q S := by
  obtain ⟨U, o, h1, h2⟩ := h
  exact ⟨U, o, f h1, h2⟩
theorem Go.to (f : ∀ t : State, Steps tb e below S' t → Steps tb e below S t) (h : Go tb e below Q S') : Go tb e below Q S := Go.st (fun {t} => f t) h
theorem Go.run (f : Steps tb e below S S') (h : Go tb e below Q S') : Go tb e below Q S := by
  obtain ⟨U, o, h1, h2⟩ := h
  exact ⟨U, o, f.trans h1, h2⟩
end
theorem castGo {tb : Tables} {e : Env} {below : List Frame} {Q : Outcome → State → Prop} {T : State} {g g' : JFrame} (q : g = g') (k : Go tb e below Q (T.setTop g')) : Go tb e below Q (T.setTop g) := q ▸ k
/-- the end of a plain walk -/
def PEnd (s : State) (Qc : Option Value → Heap → List Loc → Prop) (kc ks : Nat) (o : Outcome) (U : State) : Prop :=
  ∃ v L, o = .returned v ∧ Qc v U.heap L ∧ FrameEnd s o U L kc ks
/-- a plain contract: from the heap h with these arguments it returns, Qc holds, the room is kept -/
def Con (l : Launch) (Z : State) (y : MethodName) (bytes : ByteArray) (maxL : Nat) (ret : Option FieldType) (rm : Room) (as' : Array Value) (h : Heap) (Qc : Option Value → Heap → List Loc → Prop) : Prop :=
  ∀ ws : List Jvm.Cond, MetFree l y (head1 (Jvm.Cond.code y bytes maxL ret :: ws) rm) (fun a U => a = as' ∧ Z.Warmed39 U.vm ∧ U.heap = h) (fun _ _ _ _ _ => True) (fun _ U o U' => PEnd U Qc rm.cells rm.slots o U')
theorem Con.intro {l : Launch} {Z : State} {y : MethodName} {bytes : ByteArray} {maxL : Nat} {ret : Option FieldType} {rm : Room} {as' : Array Value} {h : Heap} {Qc : Option Value → Heap → List Loc → Prop} (pn : plainFor y = true)
    (body : ∀ (p : Program) (e : Env) (s : State) (m : MethodId) (below : List Frame) (meth : Method) (c : Code) (T : State), Stand p l e rm s m as' below meth c T [] 0 0 → p.tables.exec = Jvm.exec → c.code = bytes → c.maxLocals = maxL →
      s.vm.findClass y.cls = some m.cls → meth.name = y.name → meth.sig.returnType = ret → meth.locks = false → Z.Warmed39 s.vm → T.heap = h →
      Go p.tables e below (PEnd s Qc rm.cells rm.slots) (T.setTop (entryFrame m as' maxL))) : Con l Z y bytes maxL ret rm as' h Qc := by
  intro ws
  refine MetFree.of_bodySF pn hisR ?_
  intro p e s m args below meth c s₁ Bd hml0 hP hK
  obtain ⟨rfl, hZ, hh⟩ := hP
  exact body p e s m below meth c s₁ (Stand.of_body Bd) Bd.exec Bd.bytes hml0 (findClass_of_methodNamed Bd.named) (name_of_methodNamed Bd.named Bd.method).1 Bd.returns Bd.notSynchronized hZ (by rw [← hh, Bd.state]; rfl)
/-- the end of a walk that may have interned -/
def SEnd (Z : State) (EL : List (String × Nat)) (s : State) (Qc : Option Value → Heap → List Loc → Prop) (kc ks : Nat) (o : Outcome) (U : State) : Prop :=
  ∃ v L, o = .returned v ∧ Qc v U.heap L ∧ CHr Z EL s.vm s.heap U.vm U.heap ∧ ReturnedEndW s o U L kc ks
/-- a contract of a method that may load String constants; sl: cells that no constant uses -/
def ConS (l : Launch) (Z : State) (EL : List (String × Nat)) (y : MethodName) (bytes : ByteArray) (maxL : Nat) (ret : Option FieldType) (rm : Room) (as' : Array Value) (h : Heap) (sl : List Addr) (Qc : Option Value → Heap → List Loc → Prop) : Prop :=
  ∀ ws : List Jvm.Cond, MetFree l y (head1 (Jvm.Cond.code y bytes maxL ret :: ws) rm) (fun a U => a = as' ∧ Z.Warmed39 U.vm ∧ U.heap = h ∧ CHv Z EL U.vm h ∧ ∀ x ∈ sl, Safe Z EL U.vm h x) (fun _ _ _ _ _ => True) (fun _ U o U' => SEnd Z EL U Qc rm.cells rm.slots o U')
theorem ConS.intro {l : Launch} {Z : State} {EL : List (String × Nat)} {y : MethodName} {bytes : ByteArray} {maxL : Nat} {ret : Option FieldType} {rm : Room} {as' : Array Value} {h : Heap} {sl : List Addr} {Qc : Option Value → Heap → List Loc → Prop} (pn : plainFor y = true)
    (body : ∀ (p : Program) (e : Env) (s : State) (m : MethodId) (below : List Frame) (meth : Method) (c : Code) (T : State) (v0 : Vm), Stand p l e rm (s.setVm v0) m as' below meth c T [] 0 0 → p.tables.exec = Jvm.exec → c.code = bytes → c.maxLocals = maxL →
      v0.findClass y.cls = some m.cls → meth.name = y.name → meth.sig.returnType = ret → meth.locks = false → Z.Warmed39 v0 → T.heap = h → s.Since v0 0 → CHr Z EL s.vm s.heap v0 h → (∀ x ∈ sl, Safe Z EL v0 h x) →
      Go p.tables e below (SEnd Z EL s Qc rm.cells rm.slots) (T.setTop (entryFrame m as' maxL))) : ConS l Z EL y bytes maxL ret rm as' h sl Qc := by
  intro ws
  refine MetFree.of_bodySF pn hisR ?_
  intro p e s m args below meth c s₁ Bd hml0 hP hK
  obtain ⟨rfl, hZ, hh, hC, hs⟩ := hP
  exact body p e s m below meth c s₁ s.vm (Stand.of_body Bd) Bd.exec Bd.bytes hml0 (findClass_of_methodNamed Bd.named) (name_of_methodNamed Bd.named Bd.method).1 Bd.returns Bd.notSynchronized hZ (by rw [← hh, Bd.state]; rfl) ((State.WarmedH.refl s).since 0) (by rw [hh]; exact CHr.refl hC) hs
section Ends
variable {p : Program} {l : Launch} {e : Env} {R : Room} {s : State} {m : MethodId} {args : Array Value} {below : List Frame} {meth : Method} {c : Code} {T : State} {locs : List Loc} {cells slots : Nat} {Z : State} {a0 : Array Value} {EL : List (String × Nat)} {h : Heap} {Qc : Option Value → Heap → List Loc → Prop} {kc ks pc : Nat} {Ls : Array Slot} {rest : List Value} {vm1 : Vm} {n1 : Nat}
/-- any plain end, its last step given -/
theorem endP (X : Stand p l e R s m args below meth c T locs cells slots) (hlk : meth.locks = false) {v : Option Value} (hv : meth.sig.returnType = none → v = none) {S : State}
    (hst : ∀ fs : List Frame, (∀ (f : JFrame) (acts : List Action), f.method = m → f.locked = none → f.entered = [] → (doReturn e (T.setTop f) acts v).1 = T.setFrames fs) → Steps p.tables e below S (T.setFrames fs))
    (hq : Qc v T.heap locs) (h1 : cells ≤ kc) (h2 : slots ≤ ks) : Go p.tables e below (PEnd s Qc kc ks) S := by
  obtain ⟨fs, hr, hrun, hended, hW, hsame⟩ := X.leave (v := v) hv hlk
  exact ⟨_, _, hst fs hr, hrun, hended, _, _, rfl, hq, ⟨_, rfl⟩, hW, hsame.mono h1 h2⟩
theorem mono_sbn {s t : State} {L : List Loc} {k n k' n' : Nat} {o : Outcome} (h : ReturnedEndW s o t L k n) (h1 : k ≤ k') (h2 : n ≤ n') : ReturnedEndW s o t L k' n' := ⟨h.1, h.2.1, h.2.2.1, h.2.2.2.mono h1 h2⟩
theorem endC (X : Stand p l e R (s.setVm vm1) m args below meth c T locs cells slots) (hlk : meth.locks = false) (hS : s.Since vm1 n1) (hk : n1 ≤ T.heap.size) (hZ : Z.Warmed39 vm1) (w : EW Z a0 EL) (C : CHr Z EL s.vm s.heap vm1 T.heap) {v : Option Value} (hv : meth.sig.returnType = none → v = none) {S : State}
    (hst : ∀ fs : List Frame, (∀ (f : JFrame) (acts : List Action), f.method = m → f.locked = none → f.entered = [] → (doReturn e (T.setTop f) acts v).1 = T.setFrames fs) → Steps p.tables e below S (T.setFrames fs))
    (hq : Qc v T.heap locs) (h1 : cells ≤ kc) (h2 : slots ≤ ks) : Go p.tables e below (SEnd Z EL s Qc kc ks) S := by
  obtain ⟨fs, hr, hrun, hended, hW⟩ := X.leaveW hS hk (v := v) hv hlk
  have hC : CHr Z EL s.vm s.heap T.vm T.heap := C.trans (CHv.at X hZ w C.1)
  exact ⟨_, _, hst fs hr, hrun, hended, _, _, rfl, hq, hC, mono_sbn hW h1 h2⟩
/-- the last steps -/
theorem lastV (X : Stand p l e R s m args below meth c T locs cells slots) (hx : p.tables.exec = Jvm.exec) (hret : meth.sig.returnType = none) (hd : decode c.code pc = .ok (.return_, 1)) : ∀ fs : List Frame, (∀ (f : JFrame) (acts : List Action), f.method = m → f.locked = none → f.entered = [] → (doReturn e (T.setTop f) acts none).1 = T.setFrames fs) →
    Steps p.tables e below (T.setTop (mkF m pc Ls [])) (T.setFrames fs) := fun fs hr => X.returnOut hx hret hd hr
theorem lastN (X : Stand p l e R s m args below meth c T locs cells slots) (hx : p.tables.exec = Jvm.exec) {z z' : Int32} {t : FieldType} (hret : meth.sig.returnType = some t) (ht : t = .boolean ∨ t = .byte ∨ t = .char ∨ t = .short) (hz : nar t z = z') (hd : decode c.code pc = .ok (.ireturn, 1)) :
    ∀ fs : List Frame, (∀ (f : JFrame) (acts : List Action), f.method = m → f.locked = none → f.entered = [] → (doReturn e (T.setTop f) acts (some (.int z'))).1 = T.setFrames fs) → Steps p.tables e below (T.setTop (mkF m pc Ls (.int z :: rest))) (T.setFrames fs) := fun fs hr => by
  subst hz; exact retN X hx hret ht hd hr
theorem lastI (X : Stand p l e R s m args below meth c T locs cells slots) (hx : p.tables.exec = Jvm.exec) {z : Int32} (hret : meth.sig.returnType = some .int) (hd : decode c.code pc = .ok (.ireturn, 1)) :
    ∀ fs : List Frame, (∀ (f : JFrame) (acts : List Action), f.method = m → f.locked = none → f.entered = [] → (doReturn e (T.setTop f) acts (some (.int z))).1 = T.setFrames fs) → Steps p.tables e below (T.setTop (mkF m pc Ls (.int z :: rest))) (T.setFrames fs) := fun fs hr =>
  retOut X hx hret rfl (Or.inl ⟨rfl, Or.inl rfl, z, rfl⟩) hd hr
theorem lastL (X : Stand p l e R s m args below meth c T locs cells slots) (hx : p.tables.exec = Jvm.exec) {z : Int64} (hret : meth.sig.returnType = some .long) (hd : decode c.code pc = .ok (.lreturn, 1)) :
    ∀ fs : List Frame, (∀ (f : JFrame) (acts : List Action), f.method = m → f.locked = none → f.entered = [] → (doReturn e (T.setTop f) acts (some (.long z))).1 = T.setFrames fs) → Steps p.tables e below (T.setTop (mkF m pc Ls (.long z :: rest))) (T.setFrames fs) := fun fs hr =>
  retOut X hx hret rfl (Or.inr (Or.inl ⟨rfl, rfl, z, rfl⟩)) hd hr
theorem lastA (X : Stand p l e R s m args below meth c T locs cells slots) (hx : p.tables.exec = Jvm.exec) {w : Value} {t : FieldType} (hret : meth.sig.returnType = some t) (ht : t.isReference = true) (hn : narrow t w = w) (hw : w.isRef = true) (hd : decode c.code pc = .ok (.areturn, 1)) :
    ∀ fs : List Frame, (∀ (f : JFrame) (acts : List Action), f.method = m → f.locked = none → f.entered = [] → (doReturn e (T.setTop f) acts (some w)).1 = T.setFrames fs) → Steps p.tables e below (T.setTop (mkF m pc Ls (w :: rest))) (T.setFrames fs) := fun fs hr =>
  retOut X hx hret hn (Or.inr (Or.inr (Or.inr (Or.inr ⟨rfl, ht, hw⟩)))) hd hr
end Ends
/-- what pays a call: from the heap h, k cells and n slots -/
abbrev BackQ (l : Launch) (R : Room) (p : Program) (e : Env) (below : List Frame) (s : State) (sargs : Array Value) (y : MethodName) (len W : Nat) (as' : Array Value) (h : Heap) (k n : Nat) (Q : Option Value → Heap → List Loc → Prop) : Prop :=
  Back l R p e below s sargs y len W (fun A a => a = as' ∧ A.U.heap = h ∧ A.cells + k ≤ R.cells ∧ A.slots + n ≤ R.slots) (fun A _ v B => ∃ L, Q v B.U.heap L ∧ B.locs = A.locs ++ L ∧ B.cells = A.cells + k ∧ B.slots = A.slots + n)
abbrev BackSQ (l : Launch) (R : Room) (p : Program) (e : Env) (below : List Frame) (s : State) (vm0 : Vm) (sargs : Array Value) (y : MethodName) (len W : Nat) (as' : Array Value) (h : Heap) (k n : Nat) (Z : State) (EL : List (String × Nat)) (Q : Option Value → Heap → List Loc → Prop) : Prop :=
  BackS l R p e below (s.setVm vm0) sargs y len W (fun A a => a = as' ∧ A.U.heap = h ∧ A.cells + k ≤ R.cells ∧ A.slots + n ≤ R.slots) (fun A _ v B => ∃ L, Q v B.U.heap L ∧ B.locs = A.locs ++ L ∧ B.cells = A.cells + k ∧ B.slots = A.slots + n ∧ CHr Z EL vm0 h B.U.vm B.U.heap)
section Calls
variable {p : Program} {l : Launch} {e : Env} {R : Room} {s : State} {m : MethodId} {args : Array Value} {below : List Frame} {meth : Method} {c : Code} {T : State} {locs : List Loc} {cells slots : Nat} {Z : State} {a0 : Array Value} {EL : List (String × Nat)} {h : Heap} {Qc : Option Value → Heap → List Loc → Prop} {vm0 : Vm} {n0 : Nat}
  {y z : MethodName} {bytes : ByteArray} {maxL : Nat} {ret : Option FieldType} {rm : Room} {as' : Array Value} {own C : String} {index count W k n len : Nat} {g : JFrame} {a : Addr} {argsL rest : List Value}
theorem Con.back (hM : Con l Z y bytes maxL ret rm as' h Qc) (hZ : Z.Warmed39 s.vm) (wc : (Jvm.Cond.code y bytes maxL ret).before a0 Z = true) (wz : (Jvm.Cond.initialized y.cls).before a0 Z = true) (hf : rm.frames + 1 ≤ R.frames) (hl : W + (maxL + 11) + rm.locals ≤ R.locals) :
    BackQ l R p e below s args y len W as' h rm.cells rm.slots Qc := backOf (Q := Qc) (hM []) hZ wc wz hf hl
theorem ConS.back {sl : List Addr} (hM : ConS l Z EL y bytes maxL ret rm as' h sl Qc) (hZ : Z.Warmed39 vm0) (wc : (Jvm.Cond.code y bytes maxL ret).before a0 Z = true) (wz : (Jvm.Cond.initialized y.cls).before a0 Z = true) (hf : rm.frames + 1 ≤ R.frames) (hl : W + (maxL + 11) + rm.locals ≤ R.locals) (hEL : EW Z a0 EL) (H : CHv Z EL vm0 h)
    (hs : ∀ x ∈ sl, Safe Z EL vm0 h x) (hlt : ∀ x ∈ sl, x < h.size) : BackSQ l R p e below s vm0 args y len W as' h rm.cells rm.slots Z EL Qc :=
  BackS.of_freeW (bytes := bytes) (maxL := maxL) (ret := ret) (E := fun _ first o t L k n => k = rm.cells ∧ n = rm.slots ∧ (∃ v, o = .returned v ∧ Qc v t.heap L) ∧ CHr Z EL first.vm first.heap t.vm t.heap) (hM []) hf hl
    (fun m meth c A a Y hp => have hU : Z.Warmed39 A.U.vm := wtrans (s := s.setVm vm0) hZ Y.warmed
      ⟨by show (Cond.and _ .tt).before a A.U = true; rw [Cond.before_and, mv hU wc]; rfl, mv hU wc, mv hU wz, hp.2.2.1, hp.2.2.2⟩)
    (fun m meth c A a g mk Y hp => ⟨hp.1, wtrans (s := s.setVm vm0) hZ Y.warmed, hp.2.1, (CHv.at Y hZ hEL H).1, fun x hx => (CHv.at Y hZ hEL H).safe (hlt x hx) (hs x hx)⟩) (fun _ _ _ _ _ _ _ _ _ => trivial)
    (fun _ _ _ _ ⟨v, L, h1, h2, h3, h4⟩ => ⟨L, _, _, h4, rfl, rfl, ⟨v, h1, h2⟩, h3⟩)
    (fun m meth c A a g mk v t L k n Y hp _ _ ⟨e1, e2, ⟨v', e3, e4⟩, e5⟩ => by
      cases e3; subst e1 e2
      refine ⟨L, e4, rfl, rfl, rfl, (CHv.at Y hZ hEL H).trans ?_⟩
      rw [← hp.2.1]; exact e5)
theorem callSp (X : Stand p l e R s m args below meth c T locs cells slots) (hx : p.tables.exec = Jvm.exec) (hZ : Z.Warmed39 s.vm) (hown : s.vm.findClass own = some m.cls) (hy1 : y.name = "<init>") (w1 : (Jvm.Cond.methodLink own index y).before a0 Z = true) (w2 : (Jvm.Cond.instanceMethod y).before a0 Z = true) (w3 : (Jvm.Cond.code y bytes maxL none).before a0 Z = true)
    (hyc : y.cls ≠ "java/lang/invoke/MethodHandle" ∧ y.cls ≠ "java/lang/invoke/VarHandle") (eT : T.heap = h) (hK : BackQ l R p e below s args y 3 W (.ref a :: argsL).toArray h k n Qc)
    (hg : g.method = m) (hsize : g.locals.size = c.maxLocals) (hlen : ∀ sig, parseMethodDescriptor y.desc = some sig → argsL.length = sig.parameters.length) (hstack : g.stack = argsL.reverse ++ .ref a :: rest) (hW : 2 * g.monitorRoom + (rest.map fun v => v.category).sum ≤ W)
    (hdg : decode c.code g.pc = .ok (.invokespecial index, 3)) (hc : cells + k ≤ R.cells) (hs : slots + n ≤ R.slots) :
    ∃ v T' L, Stand p l e R s m args below meth c T' (locs ++ L) (cells + k) (slots + n) ∧ Qc v T'.heap L ∧ Steps p.tables e below (T.setTop g) (T'.setTop { g with pc := g.pc + 3, stack := v.toList ++ rest }) := by
  obtain ⟨v, vm1, ⟨T', L', k', n'⟩, -, X', ⟨L, hQ, rfl, rfl, rfl⟩, st⟩ := X.specialBack hx hy1 hown (mvT hZ w1) (mvT hZ w2) (mvT hZ w3) hyc hK hg hsize (Steps.refl _) hlen hstack hW hdg (fun _ _ => ⟨rfl, eT, hc, hs⟩)
  exact ⟨v, T', L, X', hQ, st⟩
theorem callVi (X : Stand p l e R s m args below meth c T locs cells slots) (hx : p.tables.exec = Jvm.exec) (hZ : Z.Warmed39 s.vm) (hown : s.vm.findClass own = some m.cls) (w1 : (Jvm.Cond.methodLink own index y).before a0 Z = true) (w2 : (Jvm.Cond.declares y).before a0 Z = true) (nf : NotFace s y) (w4 : (Jvm.Cond.selects C y z).before a0 Z = true) (w5 : (Jvm.Cond.instanceMethod z).before a0 Z = true)
    (hyc : y.cls ≠ "java/lang/invoke/MethodHandle" ∧ y.cls ≠ "java/lang/invoke/VarHandle") (eT : T.heap = h) (E : Exa Z h a C) (hK : BackQ l R p e below s args z 3 W (.ref a :: argsL).toArray h k n Qc)
    (hg : g.method = m) (hsize : g.locals.size = c.maxLocals) (hlen : ∀ sig, parseMethodDescriptor y.desc = some sig → argsL.length = sig.parameters.length) (hstack : g.stack = argsL.reverse ++ .ref a :: rest) (hW : 2 * g.monitorRoom + (rest.map fun v => v.category).sum ≤ W)
    (hdg : decode c.code g.pc = .ok (.invokevirtual index, 3)) (hc : cells + k ≤ R.cells) (hs : slots + n ≤ R.slots) :
    ∃ v T' L, Stand p l e R s m args below meth c T' (locs ++ L) (cells + k) (slots + n) ∧ Qc v T'.heap L ∧ Steps p.tables e below (T.setTop g) (T'.setTop { g with pc := g.pc + 3, stack := v.toList ++ rest }) := by
  obtain ⟨cB, kB, q1, q2, q3⟩ := isOf hZ eT E
  obtain ⟨v, vm1, ⟨T', L', k', n'⟩, -, X', ⟨L, hQ, rfl, rfl, rfl⟩, st⟩ := X.virtualBack hx hown (mvT hZ w1) (mvT hZ w2) nf (mvT hZ w4) (mvT hZ w5) hyc hK q1 q3 hg hsize (Steps.refl _) hlen hstack hW hdg (fun _ _ => ⟨rfl, eT, hc, hs⟩)
  exact ⟨v, T', L, X', hQ, st⟩
theorem callSt (X : Stand p l e R s m args below meth c T locs cells slots) (hx : p.tables.exec = Jvm.exec) (hZ : Z.Warmed39 s.vm) (hown : s.vm.findClass own = some m.cls) (w1 : (Jvm.Cond.methodLink own index y).before a0 Z = true) (w2 : (Jvm.Cond.static y).before a0 Z = true) (w3 : (Jvm.Cond.initialized y.cls).before a0 Z = true) (w4 : (Jvm.Cond.code y bytes maxL ret).before a0 Z = true)
    (hyc : y.cls ≠ "java/lang/invoke/MethodHandle" ∧ y.cls ≠ "java/lang/invoke/VarHandle") (eT : T.heap = h) (hK : BackQ l R p e below s args y 3 W argsL.toArray h k n Qc)
    (hg : g.method = m) (hsize : g.locals.size = c.maxLocals) (hlen : ∀ sig, parseMethodDescriptor y.desc = some sig → argsL.length = sig.parameters.length) (hstack : g.stack = argsL.reverse ++ rest) (hW : 2 * g.monitorRoom + (rest.map fun v => v.category).sum ≤ W)
    (hdg : decode c.code g.pc = .ok (.invokestatic index, 3)) (hc : cells + k ≤ R.cells) (hs : slots + n ≤ R.slots) :
    ∃ v T' L, Stand p l e R s m args below meth c T' (locs ++ L) (cells + k) (slots + n) ∧ Qc v T'.heap L ∧ Steps p.tables e below (T.setTop g) (T'.setTop { g with pc := g.pc + 3, stack := v.toList ++ rest }) := by
  obtain ⟨v, vm1, ⟨T', L', k', n'⟩, -, X', ⟨L, hQ, rfl, rfl, rfl⟩, st⟩ := Jvm.LawKit.callS X hx hown (mvT hZ w1) (mvT hZ w2) (mvT hZ w3) (mvT hZ w4) hyc hK hg hsize hlen hstack hW hdg (fun _ _ => ⟨rfl, eT, hc, hs⟩)
  exact ⟨v, T', L, X', hQ, st _ (Steps.refl _)⟩
theorem callIf (X : Stand p l e R s m args below meth c T locs cells slots) (hx : p.tables.exec = Jvm.exec) (hZ : Z.Warmed39 s.vm) (hown : s.vm.findClass own = some m.cls) (w1 : (Jvm.Cond.methodLink own index y).before a0 Z = true) (w2 : (Jvm.Cond.declares y).before a0 Z = true) (w3 : (Jvm.Cond.interfaceMethod y.cls y.cls y.name y.desc).before a0 Z = true) (h3 : ((Jvm.Cond.interfaceMethod y.cls y.cls y.name y.desc).onTables && (Jvm.Cond.interfaceMethod y.cls y.cls y.name y.desc).keepsFace) = true) (w4 : (Jvm.Cond.selects C y z).before a0 Z = true) (w5 : (Jvm.Cond.instanceMethod z).before a0 Z = true)
    (w6 : (Jvm.Cond.publicMethod z).before a0 Z = true) (w7 : (Jvm.Cond.unhidden C y.name y.desc).before a0 Z = true) (w8 : (Jvm.Cond.castable C y.cls).before a0 Z = true)
    (hyc : y.cls ≠ "java/lang/invoke/MethodHandle" ∧ y.cls ≠ "java/lang/invoke/VarHandle") (eT : T.heap = h) (E : Exa Z h a C) (hK : BackQ l R p e below s args z 5 W (.ref a :: argsL).toArray h k n Qc)
    (hg : g.method = m) (hsize : g.locals.size = c.maxLocals) (hlen : ∀ sig, parseMethodDescriptor y.desc = some sig → argsL.length = sig.parameters.length) (hstack : g.stack = argsL.reverse ++ .ref a :: rest) (hW : 2 * g.monitorRoom + (rest.map fun v => v.category).sum ≤ W)
    (hdg : decode c.code g.pc = .ok (.invokeinterface index count, 5)) (hc : cells + k ≤ R.cells) (hs : slots + n ≤ R.slots) :
    ∃ v T' L, Stand p l e R s m args below meth c T' (locs ++ L) (cells + k) (slots + n) ∧ Qc v T'.heap L ∧ Steps p.tables e below (T.setTop g) (T'.setTop { g with pc := g.pc + 5, stack := v.toList ++ rest }) := by
  obtain ⟨cB, kB, q1, q2, q3⟩ := isOf hZ eT E
  obtain ⟨v, vm1, ⟨T', L', k', n'⟩, -, X', ⟨L, hQ, rfl, rfl, rfl⟩, st⟩ := X.interfaceBack hx hown (mvT hZ w1) (mvT hZ w2) (mvT hZ w3 h3) (mvT hZ w4) (mvT hZ w5) (mvT hZ w6) (mvT hZ w7) (mvT hZ w8) hyc hK q1 q2 q3 hg hsize (Steps.refl _) hlen hstack hW hdg (fun _ _ => ⟨rfl, eT, hc, hs⟩)
  exact ⟨v, T', L, X', hQ, st⟩
theorem callVu (X : Stand p l e R s m args below meth c T locs cells slots) (hx : p.tables.exec = Jvm.exec) (hZ : Z.Warmed39 s.vm) (hown : s.vm.findClass own = some m.cls) {owner : String} (w1 : (Jvm.Cond.methodLink own index y).before a0 Z = true) (w2 : (Jvm.Cond.sameMethod y.cls owner y.name y.desc).before a0 Z = true) (w3 : (Jvm.Cond.declares ⟨owner, y.name, y.desc⟩).before a0 Z = true) (hyc : owner ≠ "java/lang/invoke/MethodHandle" ∧ owner ≠ "java/lang/invoke/VarHandle") (w4 : (Jvm.Cond.selects C y z).before a0 Z = true) (w5 : (Jvm.Cond.instanceMethod z).before a0 Z = true)
    (eT : T.heap = h) (E : Exa Z h a C) (hK : BackQ l R p e below s args z 3 W (.ref a :: argsL).toArray h k n Qc)
    (hg : g.method = m) (hsize : g.locals.size = c.maxLocals) (hlen : ∀ sig, parseMethodDescriptor y.desc = some sig → argsL.length = sig.parameters.length) (hstack : g.stack = argsL.reverse ++ .ref a :: rest) (hW : 2 * g.monitorRoom + (rest.map fun v => v.category).sum ≤ W)
    (hdg : decode c.code g.pc = .ok (.invokevirtual index, 3)) (hc : cells + k ≤ R.cells) (hs : slots + n ≤ R.slots) :
    ∃ v T' L, Stand p l e R s m args below meth c T' (locs ++ L) (cells + k) (slots + n) ∧ Qc v T'.heap L ∧ Steps p.tables e below (T.setTop g) (T'.setTop { g with pc := g.pc + 3, stack := v.toList ++ rest }) := by
  obtain ⟨cB, kB, q1, q2, q3⟩ := isOf hZ eT E
  obtain ⟨v, vm1, ⟨T', L', k', n'⟩, -, X', ⟨L, hQ, rfl, rfl, rfl⟩, st⟩ := X.virtualBackUp hx hown (mvT hZ w1) (mvT hZ w2) (mvT hZ w3) hyc (mvT hZ w4) (mvT hZ w5) hK q1 q3 hg hsize (Steps.refl _) hlen hstack hW hdg (fun _ _ => ⟨rfl, eT, hc, hs⟩)
  exact ⟨v, T', L, X', hQ, st⟩
/-- an object of C is one of K, or it isn't, as the tables have it -/
theorem insEither (hZ : Z.Warmed39 s.vm) (hown : s.vm.findClass own = some m.cls) {K : String} (w : (Jvm.Cond.classLink own index K).before a0 Z = true) (E : Exa Z h a C) : Ins Z h a K true ∨ ∃ c t, Z.vm.findClass C = some c ∧ Z.vm.findClass K = some t ∧ Z.vm.assignable c t = false := by
  have hd : Z.vm.findClass own = some m.cls := by rw [← hZ.alike.findClass]; exact hown
  obtain ⟨t, ht, -⟩ := Cond.classLink_spec hd w {} rfl
  obtain ⟨cell, k, h1, h2, h3, h4, h5⟩ := E
  cases hq : Z.vm.assignable cell.cls t with
  | true => exact Or.inl ⟨cell, t, h1, ht, by simp [h4, hq]⟩
  | false => exact Or.inr ⟨cell.cls, t, h2, ht, hq⟩
/-- what stands behind a call that may have interned -/
def AfterS (p : Program) (l : Launch) (e : Env) (R : Room) (s : State) (m : MethodId) (args : Array Value) (below : List Frame) (meth : Method) (c : Code) (Z : State) (EL : List (String × Nat)) (own : String) (vm0 : Vm) (h : Heap) (T' : State) (locs : List Loc) (cells slots : Nat) : Prop :=
  Stand p l e R (s.setVm T'.vm) m args below meth c T' locs cells slots ∧ s.Since T'.vm T'.heap.size ∧ Z.Warmed39 T'.vm ∧ T'.vm.findClass own = some m.cls ∧ CHr Z EL vm0 h T'.vm T'.heap
theorem callSpS (X : Stand p l e R (s.setVm vm0) m args below meth c T locs cells slots) (hx : p.tables.exec = Jvm.exec) (hZ : Z.Warmed39 vm0) (hown : vm0.findClass own = some m.cls) (hS : s.Since vm0 n0) (hk : n0 ≤ h.size) (hy1 : y.name = "<init>") (w1 : (Jvm.Cond.methodLink own index y).before a0 Z = true) (w2 : (Jvm.Cond.instanceMethod y).before a0 Z = true) (w3 : (Jvm.Cond.code y bytes maxL none).before a0 Z = true)
    (hyc : y.cls ≠ "java/lang/invoke/MethodHandle" ∧ y.cls ≠ "java/lang/invoke/VarHandle") (eT : T.heap = h) (hK : BackSQ l R p e below s vm0 args y 3 W (.ref a :: argsL).toArray h k n Z EL Qc)
    (hg : g.method = m) (hsize : g.locals.size = c.maxLocals) (hlen : ∀ sig, parseMethodDescriptor y.desc = some sig → argsL.length = sig.parameters.length) (hstack : g.stack = argsL.reverse ++ .ref a :: rest) (hW : 2 * g.monitorRoom + (rest.map fun v => v.category).sum ≤ W)
    (hdg : decode c.code g.pc = .ok (.invokespecial index, 3)) (hc : cells + k ≤ R.cells) (hs : slots + n ≤ R.slots) :
    ∃ v T' L, AfterS p l e R s m args below meth c Z EL own vm0 h T' (locs ++ L) (cells + k) (slots + n) ∧ Qc v T'.heap L ∧ Steps p.tables e below (T.setTop g) (T'.setTop { g with pc := g.pc + 3, stack := v.toList ++ rest }) := by
  obtain ⟨v, vm1, ⟨T', L', k', n'⟩, -, X', h2, gr, ⟨L, hQ, rfl, rfl, rfl, hC⟩, st⟩ := X.specialBackS hx hy1 hown (mvT hZ w1) (mvT hZ w2) (mvT hZ w3) hyc hK hg hsize (Steps.refl _) hlen hstack hW hdg (fun _ _ => ⟨rfl, eT, hc, hs⟩)
  obtain ⟨b1, b2, b3, b4⟩ := rebS hS (eT ▸ hk) X' h2 gr hZ hown
  exact ⟨v, T', L, ⟨b1, b2, b3, b4, hC⟩, hQ, st⟩
theorem callViS (X : Stand p l e R (s.setVm vm0) m args below meth c T locs cells slots) (hx : p.tables.exec = Jvm.exec) (hZ : Z.Warmed39 vm0) (hown : vm0.findClass own = some m.cls) (hS : s.Since vm0 n0) (hk : n0 ≤ h.size) (w1 : (Jvm.Cond.methodLink own index y).before a0 Z = true) (w2 : (Jvm.Cond.declares y).before a0 Z = true) (nf : NotFace (s.setVm vm0) y) (w4 : (Jvm.Cond.selects C y z).before a0 Z = true) (w5 : (Jvm.Cond.instanceMethod z).before a0 Z = true)
    (hyc : y.cls ≠ "java/lang/invoke/MethodHandle" ∧ y.cls ≠ "java/lang/invoke/VarHandle") (eT : T.heap = h) (E : Exa Z h a C) (hK : BackSQ l R p e below s vm0 args z 3 W (.ref a :: argsL).toArray h k n Z EL Qc)
    (hg : g.method = m) (hsize : g.locals.size = c.maxLocals) (hlen : ∀ sig, parseMethodDescriptor y.desc = some sig → argsL.length = sig.parameters.length) (hstack : g.stack = argsL.reverse ++ .ref a :: rest) (hW : 2 * g.monitorRoom + (rest.map fun v => v.category).sum ≤ W)
    (hdg : decode c.code g.pc = .ok (.invokevirtual index, 3)) (hc : cells + k ≤ R.cells) (hs : slots + n ≤ R.slots) :
    ∃ v T' L, AfterS p l e R s m args below meth c Z EL own vm0 h T' (locs ++ L) (cells + k) (slots + n) ∧ Qc v T'.heap L ∧ Steps p.tables e below (T.setTop g) (T'.setTop { g with pc := g.pc + 3, stack := v.toList ++ rest }) := by
  obtain ⟨cB, kB, q1, q2, q3⟩ := isOf (s := s.setVm vm0) hZ eT E
  obtain ⟨v, vm1, ⟨T', L', k', n'⟩, -, X', h2, gr, ⟨L, hQ, rfl, rfl, rfl, hC⟩, st⟩ := X.virtualBackS hx hown (mvT hZ w1) (mvT hZ w2) nf (mvT hZ w4) (mvT hZ w5) hyc hK q1 q3 hg hsize (Steps.refl _) hlen hstack hW hdg (fun _ _ => ⟨rfl, eT, hc, hs⟩)
  obtain ⟨b1, b2, b3, b4⟩ := rebS hS (eT ▸ hk) X' h2 gr hZ hown
  exact ⟨v, T', L, ⟨b1, b2, b3, b4, hC⟩, hQ, st⟩
theorem callStS (X : Stand p l e R (s.setVm vm0) m args below meth c T locs cells slots) (hx : p.tables.exec = Jvm.exec) (hZ : Z.Warmed39 vm0) (hown : vm0.findClass own = some m.cls) (hS : s.Since vm0 n0) (hk : n0 ≤ h.size) (w1 : (Jvm.Cond.methodLink own index y).before a0 Z = true) (w2 : (Jvm.Cond.static y).before a0 Z = true) (w3 : (Jvm.Cond.initialized y.cls).before a0 Z = true) (w4 : (Jvm.Cond.code y bytes maxL ret).before a0 Z = true)
    (hyc : y.cls ≠ "java/lang/invoke/MethodHandle" ∧ y.cls ≠ "java/lang/invoke/VarHandle") (eT : T.heap = h) (hK : BackSQ l R p e below s vm0 args y 3 W argsL.toArray h k n Z EL Qc)
    (hg : g.method = m) (hsize : g.locals.size = c.maxLocals) (hlen : ∀ sig, parseMethodDescriptor y.desc = some sig → argsL.length = sig.parameters.length) (hstack : g.stack = argsL.reverse ++ rest) (hW : 2 * g.monitorRoom + (rest.map fun v => v.category).sum ≤ W)
    (hdg : decode c.code g.pc = .ok (.invokestatic index, 3)) (hc : cells + k ≤ R.cells) (hs : slots + n ≤ R.slots) :
    ∃ v T' L, AfterS p l e R s m args below meth c Z EL own vm0 h T' (locs ++ L) (cells + k) (slots + n) ∧ Qc v T'.heap L ∧ Steps p.tables e below (T.setTop g) (T'.setTop { g with pc := g.pc + 3, stack := v.toList ++ rest }) := by
  obtain ⟨v, vm1, ⟨T', L', k', n'⟩, -, X', h2, gr, ⟨L, hQ, rfl, rfl, rfl, hC⟩, st⟩ := callSS X hx hown (mvT hZ w1) (mvT hZ w2) (mvT hZ w3) (mvT hZ w4) hyc hK hg hsize hlen hstack hW hdg (fun _ _ => ⟨rfl, eT, hc, hs⟩)
  obtain ⟨b1, b2, b3, b4⟩ := rebS hS (eT ▸ hk) X' h2 gr hZ hown
  exact ⟨v, T', L, ⟨b1, b2, b3, b4, hC⟩, hQ, st⟩
end Calls
section Arrays
variable {p : Program} {l : Launch} {e : Env} {R : Room} {s : State} {m : MethodId} {args : Array Value} {below : List Frame} {meth : Method} {c : Code} {T : State} {locs : List Loc} {cells slots : Nat} {Z : State} {a0 : Array Value} {h : Heap} {g : JFrame} {rest : List Value} {a : Addr} {k : ClassId} {ty : FieldType} {z j x x' : Int32} {i : Nat} {vs : List Value} {d v : Value}
theorem newArr (X : Stand p l e R s m args below meth c T locs cells slots) (hx : p.tables.exec = Jvm.exec) (hZ : Z.Warmed39 s.vm) {aty : ArrayType} (w : (Jvm.Cond.arrayClass (newarray.typeOf aty)).before a0 Z = true) (eT : T.heap = h) (hg : g.method = m) (hd : decode c.code g.pc = .ok (.newarray aty, 2)) {n : Int32} (hs : g.stack = .int n :: rest)
    (hn : ¬ n < 0) {q : Nat} (hq : n.toNatClampNeg = q) (hb : q * 8 ≤ 536870912) (hc : cells + 1 ≤ R.cells) (hl : slots + q ≤ R.slots) :
    ∃ T' h' cA, Stand p l e R s m args below meth c T' locs (cells + 1) (slots + q) ∧ T'.heap = h' ∧ Ext h h' ∧ Arv Z h' h.size cA (newarray.typeOf aty) n (List.replicate q (defaultValue (newarray.typeOf aty))) (defaultValue (newarray.typeOf aty)) ∧
      ∀ target, Steps p.tables e below (T'.setTop { g with pc := g.pc + 2, stack := .ref h.size :: rest }) target → Steps p.tables e below (T.setTop g) target := by
  obtain ⟨T', h', cA, X', e', E', A', st⟩ := newP X hx hZ w eT hg hd hs hn (cap := q) (Nat.le_of_eq hq) hb hc hl
  exact ⟨T', h', cA, X', e', E', (Arv.new A' hn).pad (fun i => by have := pad_rep [] (defaultValue (newarray.typeOf aty)) q i; simpa using this), st⟩
theorem setC (X : Stand p l e R s m args below meth c T locs cells slots) (hx : p.tables.exec = Jvm.exec) (hZ : Z.Warmed39 s.vm) (eT : T.heap = h) (A : Arv Z h a k .char z vs d) (hj : j.toNatClampNeg = i) (h0 : ¬ j < 0) (hjz : j < z) (hi : i < vs.length) (hn : nar .char x = x') (hg : g.method = m) (hs : g.stack = .int x :: .int j :: .ref a :: rest) (hd : decode c.code g.pc = .ok (.castore, 1)) :
    ∃ T' h', Stand p l e R s m args below meth c T' (locs ++ [⟨a, i⟩]) cells slots ∧ T'.heap = h' ∧ Wr h h' a i (.int x') ∧ Arv Z h' a k .char z (vs.set i (.int x')) d ∧ ∀ target, Steps p.tables e below (T'.setTop { g with pc := g.pc + 1, stack := rest }) target → Steps p.tables e below (T.setTop g) target := by
  subst hj hn
  obtain ⟨cl, A1, A2, A3, A4, A5, A6⟩ := A
  obtain ⟨T', h', X', e', W', st⟩ := stC X hx hZ eT A1 (inb_of A3 ⟨h0, hjz⟩) hg hs hd
  exact ⟨T', h', X', e', W', Arv.set A1 A2 A3 A4 A5 A6 (fits_nar_char x) W' _ rfl hi, st⟩
theorem setB (X : Stand p l e R s m args below meth c T locs cells slots) (hx : p.tables.exec = Jvm.exec) (hZ : Z.Warmed39 s.vm) (eT : T.heap = h) (A : Arv Z h a k .byte z vs d) (hj : j.toNatClampNeg = i) (h0 : ¬ j < 0) (hjz : j < z) (hi : i < vs.length) (hn : nar .byte x = x') (hg : g.method = m) (hs : g.stack = .int x :: .int j :: .ref a :: rest) (hd : decode c.code g.pc = .ok (.bastore, 1)) :
    ∃ T' h', Stand p l e R s m args below meth c T' (locs ++ [⟨a, i⟩]) cells slots ∧ T'.heap = h' ∧ Wr h h' a i (.int x') ∧ Arv Z h' a k .byte z (vs.set i (.int x')) d ∧ ∀ target, Steps p.tables e below (T'.setTop { g with pc := g.pc + 1, stack := rest }) target → Steps p.tables e below (T.setTop g) target := by
  subst hj hn
  obtain ⟨cl, A1, A2, A3, A4, A5, A6⟩ := A
  obtain ⟨T', h', X', e', W', st⟩ := stB X hx hZ eT A1 (inb_of A3 ⟨h0, hjz⟩) hg hs hd
  exact ⟨T', h', X', e', W', Arv.set A1 A2 A3 A4 A5 A6 (fits_nar_byte x) W' _ rfl hi, st⟩
theorem setI (X : Stand p l e R s m args below meth c T locs cells slots) (hx : p.tables.exec = Jvm.exec) (hZ : Z.Warmed39 s.vm) (eT : T.heap = h) (A : Arv Z h a k .int z vs d) (hj : j.toNatClampNeg = i) (h0 : ¬ j < 0) (hjz : j < z) (hi : i < vs.length) (hg : g.method = m) (hs : g.stack = .int x :: .int j :: .ref a :: rest) (hd : decode c.code g.pc = .ok (.iastore, 1)) :
    ∃ T' h', Stand p l e R s m args below meth c T' (locs ++ [⟨a, i⟩]) cells slots ∧ T'.heap = h' ∧ Wr h h' a i (.int x) ∧ Arv Z h' a k .int z (vs.set i (.int x)) d ∧ ∀ target, Steps p.tables e below (T'.setTop { g with pc := g.pc + 1, stack := rest }) target → Steps p.tables e below (T.setTop g) target := by
  subst hj
  obtain ⟨cl, A1, A2, A3, A4, A5, A6⟩ := A
  obtain ⟨T', h', X', e', W', st⟩ := stI X hx hZ eT A1 (inb_of A3 ⟨h0, hjz⟩) hg hs hd
  exact ⟨T', h', X', e', W', Arv.set A1 A2 A3 A4 A5 A6 rfl W' _ rfl hi, st⟩
theorem setR (X : Stand p l e R s m args below meth c T locs cells slots) (hx : p.tables.exec = Jvm.exec) (hZ : Z.Warmed39 s.vm) (eT : T.heap = h) (A : Arv Z h a k ty z vs d) (hty : ty.isReference = true) (F : Sto Z h a v) (hfit : fits ty v = true) (hj : j.toNatClampNeg = i) (h0 : ¬ j < 0) (hjz : j < z) (hi : i < vs.length) (hg : g.method = m) (hs : g.stack = v :: .int j :: .ref a :: rest) (hd : decode c.code g.pc = .ok (.aastore, 1)) :
    ∃ T' h', Stand p l e R s m args below meth c T' (locs ++ [⟨a, i⟩]) cells slots ∧ T'.heap = h' ∧ Wr h h' a i v ∧ Arv Z h' a k ty z (vs.set i v) d ∧ ∀ target, Steps p.tables e below (T'.setTop { g with pc := g.pc + 1, stack := rest }) target → Steps p.tables e below (T.setTop g) target := by
  subst hj
  obtain ⟨cl, A1, A2, A3, A4, A5, A6⟩ := A
  obtain ⟨T', h', X', e', W', st⟩ := stR X hx hZ eT A1 (inb_of A3 ⟨h0, hjz⟩) hty F hg hs hd
  exact ⟨T', h', X', e', W', Arv.set A1 A2 A3 A4 A5 A6 hfit W' _ rfl hi, st⟩
theorem ldC (X : Stand p l e R s m args below meth c T locs cells slots) (hx : p.tables.exec = Jvm.exec) (hZ : Z.Warmed39 s.vm) (eT : T.heap = h) (A : Arv Z h a k .char z vs d) (hj : j.toNatClampNeg = i) (h0 : ¬ j < 0) (hjz : j < z) (hv : vs.getD i d = v) (hg : g.method = m) (hs : g.stack = .int j :: .ref a :: rest) (hd : decode c.code g.pc = .ok (.caload, 1)) :
    ∀ target, Steps p.tables e below (T.setTop { g with pc := g.pc + 1, stack := v :: rest }) target → Steps p.tables e below (T.setTop g) target := by
  subst hj hv
  obtain ⟨cl, A1, A2, A3, A4, A5, A6⟩ := A
  exact X.caload hx (by rw [eT]; exact A1.1) (State.isArrayOf_alike hZ.alike A1.2.1) A1.2.2 (inb_of A3 ⟨h0, hjz⟩) (A5.at (inb_of A3 ⟨h0, hjz⟩) rfl) hg hs hd
theorem ldB (X : Stand p l e R s m args below meth c T locs cells slots) (hx : p.tables.exec = Jvm.exec) (hZ : Z.Warmed39 s.vm) (eT : T.heap = h) (A : Arv Z h a k .byte z vs d) (hj : j.toNatClampNeg = i) (h0 : ¬ j < 0) (hjz : j < z) (hv : vs.getD i d = v) (hg : g.method = m) (hs : g.stack = .int j :: .ref a :: rest) (hd : decode c.code g.pc = .ok (.baload, 1)) :
    ∀ target, Steps p.tables e below (T.setTop { g with pc := g.pc + 1, stack := v :: rest }) target → Steps p.tables e below (T.setTop g) target := by
  subst hj hv
  obtain ⟨cl, A1, A2, A3, A4, A5, A6⟩ := A
  exact X.baloadBytes hx (by rw [eT]; exact A1.1) (State.isArrayOf_alike hZ.alike A1.2.1) A1.2.2 (inb_of A3 ⟨h0, hjz⟩) (A5.at (inb_of A3 ⟨h0, hjz⟩) rfl) hg hs hd
theorem ldI (X : Stand p l e R s m args below meth c T locs cells slots) (hx : p.tables.exec = Jvm.exec) (hZ : Z.Warmed39 s.vm) (eT : T.heap = h) (A : Arv Z h a k .int z vs d) (hj : j.toNatClampNeg = i) (h0 : ¬ j < 0) (hjz : j < z) (hv : vs.getD i d = v) (hg : g.method = m) (hs : g.stack = .int j :: .ref a :: rest) (hd : decode c.code g.pc = .ok (.iaload, 1)) :
    ∀ target, Steps p.tables e below (T.setTop { g with pc := g.pc + 1, stack := v :: rest }) target → Steps p.tables e below (T.setTop g) target := by
  subst hj hv
  obtain ⟨cl, A1, A2, A3, A4, A5, A6⟩ := A
  exact X.iaload hx (by rw [eT]; exact A1.1) (State.isArrayOf_alike hZ.alike A1.2.1) A1.2.2 (inb_of A3 ⟨h0, hjz⟩) (A5.at (inb_of A3 ⟨h0, hjz⟩) rfl) hg hs hd
theorem ldR (X : Stand p l e R s m args below meth c T locs cells slots) (hx : p.tables.exec = Jvm.exec) (hZ : Z.Warmed39 s.vm) (eT : T.heap = h) (A : Arv Z h a k ty z vs d) (hty : ty.isReference = true) (hj : j.toNatClampNeg = i) (h0 : ¬ j < 0) (hjz : j < z) (hv : vs.getD i d = v) (hg : g.method = m) (hs : g.stack = .int j :: .ref a :: rest) (hd : decode c.code g.pc = .ok (.aaload, 1)) :
    ∀ target, Steps p.tables e below (T.setTop { g with pc := g.pc + 1, stack := v :: rest }) target → Steps p.tables e below (T.setTop g) target := by
  subst hj hv
  obtain ⟨cl, A1, A2, A3, A4, A5, A6⟩ := A
  exact X.aaload hx (by rw [eT]; exact A1.1) (State.isArrayOf_alike hZ.alike A1.2.1) hty A1.2.2 (inb_of A3 ⟨h0, hjz⟩) (A5.at (inb_of A3 ⟨h0, hjz⟩) rfl) hg hs hd
theorem alen (X : Stand p l e R s m args below meth c T locs cells slots) (hx : p.tables.exec = Jvm.exec) (hZ : Z.Warmed39 s.vm) (eT : T.heap = h) (A : Arv Z h a k ty z vs d) (hg : g.method = m) (hs : g.stack = .ref a :: rest) (hd : decode c.code g.pc = .ok (.arraylength, 1)) :
    ∀ target, Steps p.tables e below (T.setTop { g with pc := g.pc + 1, stack := .int z :: rest }) target → Steps p.tables e below (T.setTop g) target := fun t ht => by
  obtain ⟨cl, A1, A2, A3, A4, A5, A6⟩ := A
  refine X.arraylength hx (by rw [eT]; exact A1.1) (State.isArrayOf_alike hZ.alike A1.2.1) hg hs hd t ?_
  rw [len_of A3 A4]; exact ht
end Arrays
theorem sto_arv {Z : State} {h : Heap} {a y : Addr} {k : ClassId} {ty : FieldType} {z : Int32} {vs : List Value} {d : Value} {C : String} (A : Arv Z h a k ty z vs d) (O : Ovr Z k C) (I : Ins Z h y C true) : Sto Z h a (.ref y) := by
  obtain ⟨c, A1, A2, -⟩ := A
  exact Sto.ofV A1 A2 O I
theorem own_nref {C : String} {v : Value} (h : v.isRef = true) : narrow (.object C) v = v := by
  rcases ref_cases h with rfl | ⟨_, rfl⟩ <;> rfl
theorem own_fref {C : String} {v : Value} (h : v.isRef = true) : fits (.object C) v = true := by
  rcases ref_cases h with rfl | ⟨_, rfl⟩ <;> rfl
theorem nsi_root {Z : State} {a0 : Array Value} {O K : String} {n : Nat} (w : (Jvm.Cond.noSuperclass O).before a0 Z = true) (wk : (Jvm.Cond.instantiable K n).before a0 Z = true) (hn : O ≠ K) : NS Z O K := by
  obtain ⟨c, k, h1, h2, h3, -, -⟩ := Cond.noSuperclass_spec w
  obtain ⟨t, k2, g1, -⟩ := Cond.instantiable_spec wk
  have ne := ids_ne h1 g1 hn
  refine ⟨c, t, h1, g1, fun fuel => ?_⟩
  cases fuel with
  | zero => rfl
  | succ f => simp [Vm.isSubclassAux, ne, h2, h3]
theorem nsi_no {Z : State} {a0 : Array Value} {C S K : String} {n : Nat} (w : (Jvm.Cond.superclass C S).before a0 Z = true) (wk : (Jvm.Cond.instantiable K n).before a0 Z = true) (ns : NS Z C K) (hn : C ≠ K) : ∃ c t, Z.vm.findClass C = some c ∧ Z.vm.findClass K = some t ∧ Z.vm.assignable c t = false := by
  obtain ⟨c, t, h0, g0, n3⟩ := ns
  obtain ⟨p, k, kp, h1, h2, h3, h4, h5, -, h7⟩ := Cond.superclass_spec h0 w
  obtain ⟨t', k', g1, g2, g5, g6, -⟩ := Cond.instantiable_spec wk
  cases g0.symm.trans g1
  have g7 : k'.isInterface = false := (Bool.or_eq_false_iff.mp g6).1
  have ne := ids_ne h0 g0 hn
  refine ⟨c, t, h0, g0, ?_⟩
  show Z.vm.assignableAux (255 + 1) c t = false
  simp [Vm.assignableAux, ne, h2, g2, h5, g5, g7, Vm.isSubclass, n3]
end Jvm.OwnKit
namespace Jvm.OwnKit
open Jvm Jvm.ClassFile Sem Op Lib Jvm.Free Jvm.Stand Jvm.LawKit Jvm.RoadKit Bundle
section Steps1
variable {p : Program} {l : Launch} {e : Env} {R : Room} {s : State} {m : MethodId} {args : Array Value} {below : List Frame} {meth : Method} {c : Code} {T : State} {locs : List Loc} {cells slots : Nat} {Z : State} {a0 : Array Value} {EL : List (String × Nat)} {h : Heap} {Q : Outcome → State → Prop} {pc q : Nat} {Ls Ls' : Array Slot} {st : List Value} {x y z : Int32} {jx jy jz : Int64} {a : Addr} {v w : Value} {k : Nat} {k4 : Fin 4} {i : Nat} {vs : List Value} {d : Value} {ty : FieldType} {kc : ClassId} {own C O f dd : String} {index : Nat}
theorem aL (X : Stand p l e R s m args below meth c T locs cells slots) (hx : p.tables.exec = Jvm.exec) (hd : decode c.code pc = .ok (.aload_n k4, 1)) (hq : pc + 1 = q) (hl : Ls[k4.val]? = some (.val v)) (hv : v.isRef = true) (kk : Go p.tables e below Q (T.setTop (mkF m q Ls (v :: st)))) : Go p.tables e below Q (T.setTop (mkF m pc Ls st)) := by
  subst hq; exact Go.st (XS.aloadN X.here hx rfl hd hl hv) kk
theorem aLw (X : Stand p l e R s m args below meth c T locs cells slots) (hx : p.tables.exec = Jvm.exec) (hd : decode c.code pc = .ok (.aload k, 2)) (hq : pc + 2 = q) (hl : Ls[k]? = some (.val v)) (hv : v.isRef = true) (kk : Go p.tables e below Q (T.setTop (mkF m q Ls (v :: st)))) : Go p.tables e below Q (T.setTop (mkF m pc Ls st)) := by
  subst hq; exact Go.st (XS.aload X.here hx rfl hd hl hv) kk
theorem iL (X : Stand p l e R s m args below meth c T locs cells slots) (hx : p.tables.exec = Jvm.exec) (hd : decode c.code pc = .ok (.iload_n k4, 1)) (hq : pc + 1 = q) (hl : Ls[k4.val]? = some (.val (.int x))) (kk : Go p.tables e below Q (T.setTop (mkF m q Ls (.int x :: st)))) : Go p.tables e below Q (T.setTop (mkF m pc Ls st)) := by
  subst hq; exact Go.st (XS.iloadN X.here hx rfl hd hl) kk
theorem iLw (X : Stand p l e R s m args below meth c T locs cells slots) (hx : p.tables.exec = Jvm.exec) (hd : decode c.code pc = .ok (.iload k, 2)) (hq : pc + 2 = q) (hl : Ls[k]? = some (.val (.int x))) (kk : Go p.tables e below Q (T.setTop (mkF m q Ls (.int x :: st)))) : Go p.tables e below Q (T.setTop (mkF m pc Ls st)) := by
  subst hq; exact Go.st (XS.iload X.here hx rfl hd hl) kk
theorem lL (X : Stand p l e R s m args below meth c T locs cells slots) (hx : p.tables.exec = Jvm.exec) (hd : decode c.code pc = .ok (.lload_n k4, 1)) (hq : pc + 1 = q) (hl : Ls[k4.val]? = some (.val (.long jx))) (kk : Go p.tables e below Q (T.setTop (mkF m q Ls (.long jx :: st)))) : Go p.tables e below Q (T.setTop (mkF m pc Ls st)) := by
  subst hq; exact Go.st (XS.lloadN X.here hx rfl hd hl) kk
theorem lLw (X : Stand p l e R s m args below meth c T locs cells slots) (hx : p.tables.exec = Jvm.exec) (hd : decode c.code pc = .ok (.lload k, 2)) (hq : pc + 2 = q) (hl : Ls[k]? = some (.val (.long jx))) (kk : Go p.tables e below Q (T.setTop (mkF m q Ls (.long jx :: st)))) : Go p.tables e below Q (T.setTop (mkF m pc Ls st)) := by
  subst hq; exact Go.st (XS.lload X.here hx rfl hd hl) kk
theorem sI (X : Stand p l e R s m args below meth c T locs cells slots) (hx : p.tables.exec = Jvm.exec) (hd : decode c.code pc = .ok (.istore_n k4, 1)) (hq : pc + 1 = q) (hl : storeLocals Ls k4.val (.int x) = some Ls') (kk : Go p.tables e below Q (T.setTop (mkF m q Ls' st))) : Go p.tables e below Q (T.setTop (mkF m pc Ls (.int x :: st))) := by
  subst hq; exact Go.st (XS.istoreN X.here hx rfl hd rfl hl) kk
theorem sIw (X : Stand p l e R s m args below meth c T locs cells slots) (hx : p.tables.exec = Jvm.exec) (hd : decode c.code pc = .ok (.istore k, 2)) (hq : pc + 2 = q) (hl : storeLocals Ls k (.int x) = some Ls') (kk : Go p.tables e below Q (T.setTop (mkF m q Ls' st))) : Go p.tables e below Q (T.setTop (mkF m pc Ls (.int x :: st))) := by
  subst hq; exact Go.st (XS.istore X.here hx rfl hd rfl hl) kk
theorem sL (X : Stand p l e R s m args below meth c T locs cells slots) (hx : p.tables.exec = Jvm.exec) (hd : decode c.code pc = .ok (.lstore_n k4, 1)) (hq : pc + 1 = q) (hl : storeLocals Ls k4.val (.long jx) = some Ls') (kk : Go p.tables e below Q (T.setTop (mkF m q Ls' st))) : Go p.tables e below Q (T.setTop (mkF m pc Ls (.long jx :: st))) := by
  subst hq; exact Go.st (XS.lstoreN X.here hx rfl hd rfl hl) kk
theorem sLw (X : Stand p l e R s m args below meth c T locs cells slots) (hx : p.tables.exec = Jvm.exec) (hd : decode c.code pc = .ok (.lstore k, 2)) (hq : pc + 2 = q) (hl : storeLocals Ls k (.long jx) = some Ls') (kk : Go p.tables e below Q (T.setTop (mkF m q Ls' st))) : Go p.tables e below Q (T.setTop (mkF m pc Ls (.long jx :: st))) := by
  subst hq; exact Go.st (XS.lstore X.here hx rfl hd rfl hl) kk
theorem sA (X : Stand p l e R s m args below meth c T locs cells slots) (hx : p.tables.exec = Jvm.exec) (hd : decode c.code pc = .ok (.astore_n k4, 1)) (hq : pc + 1 = q) (hv : v.isRef = true) (hl : storeLocals Ls k4.val v = some Ls') (kk : Go p.tables e below Q (T.setTop (mkF m q Ls' st))) : Go p.tables e below Q (T.setTop (mkF m pc Ls (v :: st))) := by
  subst hq; exact Go.st (XS.astoreN X.here hx rfl hd rfl hv hl) kk
theorem sAw (X : Stand p l e R s m args below meth c T locs cells slots) (hx : p.tables.exec = Jvm.exec) (hd : decode c.code pc = .ok (.astore k, 2)) (hq : pc + 2 = q) (hv : v.isRef = true) (hl : storeLocals Ls k v = some Ls') (kk : Go p.tables e below Q (T.setTop (mkF m q Ls' st))) : Go p.tables e below Q (T.setTop (mkF m pc Ls (v :: st))) := by
  subst hq; exact Go.st (XS.astore X.here hx rfl hd rfl hv hl) kk
theorem cI (X : Stand p l e R s m args below meth c T locs cells slots) (hx : p.tables.exec = Jvm.exec) {j : Int} (hd : decode c.code pc = .ok (.iconst j, 1)) (hq : pc + 1 = q) (hz : Int32.ofInt j = z) (kk : Go p.tables e below Q (T.setTop (mkF m q Ls (.int z :: st)))) : Go p.tables e below Q (T.setTop (mkF m pc Ls st)) := by
  subst hq hz; exact Go.st (XS.iconst X.here hx rfl hd) kk
theorem bI (X : Stand p l e R s m args below meth c T locs cells slots) (hx : p.tables.exec = Jvm.exec) {j : Int} (hd : decode c.code pc = .ok (.bipush j, 2)) (hq : pc + 2 = q) (hz : (Int8.ofInt j).toInt32 = z) (kk : Go p.tables e below Q (T.setTop (mkF m q Ls (.int z :: st)))) : Go p.tables e below Q (T.setTop (mkF m pc Ls st)) := by
  subst hq hz; exact Go.st (XS.bipush X.here hx rfl hd) kk
theorem pI (X : Stand p l e R s m args below meth c T locs cells slots) (hx : p.tables.exec = Jvm.exec) {j : Int} (hd : decode c.code pc = .ok (.sipush j, 3)) (hq : pc + 3 = q) (hz : (Int16.ofInt j).toInt32 = z) (kk : Go p.tables e below Q (T.setTop (mkF m q Ls (.int z :: st)))) : Go p.tables e below Q (T.setTop (mkF m pc Ls st)) := by
  subst hq hz; exact Go.st (XS.sipush X.here hx rfl hd) kk
theorem cJ (X : Stand p l e R s m args below meth c T locs cells slots) (hx : p.tables.exec = Jvm.exec) {j2 : Fin 2} (hd : decode c.code pc = .ok (.lconst j2, 1)) (hq : pc + 1 = q) (hz : Int64.ofNat j2 = jz) (kk : Go p.tables e below Q (T.setTop (mkF m q Ls (.long jz :: st)))) : Go p.tables e below Q (T.setTop (mkF m pc Ls st)) := by
  subst hq hz; exact Go.st (XS.lconst X.here hx rfl hd) kk
theorem cN (X : Stand p l e R s m args below meth c T locs cells slots) (hx : p.tables.exec = Jvm.exec) (hd : decode c.code pc = .ok (.aconst_null, 1)) (hq : pc + 1 = q) (kk : Go p.tables e below Q (T.setTop (mkF m q Ls (.null :: st)))) : Go p.tables e below Q (T.setTop (mkF m pc Ls st)) := by
  subst hq; exact Go.st (XS.aconstNull X.here hx rfl hd) kk
theorem g_iadd (X : Stand p l e R s m args below meth c T locs cells slots) (hx : p.tables.exec = Jvm.exec) (hd : decode c.code pc = .ok (.iadd, 1)) (hq : pc + 1 = q) (hz : x + y = z) (kk : Go p.tables e below Q (T.setTop (mkF m q Ls (.int z :: st)))) : Go p.tables e below Q (T.setTop (mkF m pc Ls (.int y :: .int x :: st))) := by
  subst hq hz; exact Go.st (XS.iadd X.here hx rfl hd rfl) kk
theorem g_isub (X : Stand p l e R s m args below meth c T locs cells slots) (hx : p.tables.exec = Jvm.exec) (hd : decode c.code pc = .ok (.isub, 1)) (hq : pc + 1 = q) (hz : x - y = z) (kk : Go p.tables e below Q (T.setTop (mkF m q Ls (.int z :: st)))) : Go p.tables e below Q (T.setTop (mkF m pc Ls (.int y :: .int x :: st))) := by
  subst hq hz; exact Go.st (XS.isub X.here hx rfl hd rfl) kk
theorem g_imul (X : Stand p l e R s m args below meth c T locs cells slots) (hx : p.tables.exec = Jvm.exec) (hd : decode c.code pc = .ok (.imul, 1)) (hq : pc + 1 = q) (hz : x * y = z) (kk : Go p.tables e below Q (T.setTop (mkF m q Ls (.int z :: st)))) : Go p.tables e below Q (T.setTop (mkF m pc Ls (.int y :: .int x :: st))) := by
  subst hq hz; exact Go.st (XS.imul X.here hx rfl hd rfl) kk
theorem g_iand (X : Stand p l e R s m args below meth c T locs cells slots) (hx : p.tables.exec = Jvm.exec) (hd : decode c.code pc = .ok (.iand, 1)) (hq : pc + 1 = q) (hz : x &&& y = z) (kk : Go p.tables e below Q (T.setTop (mkF m q Ls (.int z :: st)))) : Go p.tables e below Q (T.setTop (mkF m pc Ls (.int y :: .int x :: st))) := by
  subst hq hz; exact Go.st (XS.iand X.here hx rfl hd rfl) kk
theorem g_ior (X : Stand p l e R s m args below meth c T locs cells slots) (hx : p.tables.exec = Jvm.exec) (hd : decode c.code pc = .ok (.ior, 1)) (hq : pc + 1 = q) (hz : x ||| y = z) (kk : Go p.tables e below Q (T.setTop (mkF m q Ls (.int z :: st)))) : Go p.tables e below Q (T.setTop (mkF m pc Ls (.int y :: .int x :: st))) := by
  subst hq hz; exact Go.st (XS.ior X.here hx rfl hd rfl) kk
theorem g_ixor (X : Stand p l e R s m args below meth c T locs cells slots) (hx : p.tables.exec = Jvm.exec) (hd : decode c.code pc = .ok (.ixor, 1)) (hq : pc + 1 = q) (hz : x ^^^ y = z) (kk : Go p.tables e below Q (T.setTop (mkF m q Ls (.int z :: st)))) : Go p.tables e below Q (T.setTop (mkF m pc Ls (.int y :: .int x :: st))) := by
  subst hq hz; exact Go.st (XS.ixor X.here hx rfl hd rfl) kk
theorem g_ishl (X : Stand p l e R s m args below meth c T locs cells slots) (hx : p.tables.exec = Jvm.exec) (hd : decode c.code pc = .ok (.ishl, 1)) (hq : pc + 1 = q) (hz : x <<< (y &&& 31) = z) (kk : Go p.tables e below Q (T.setTop (mkF m q Ls (.int z :: st)))) : Go p.tables e below Q (T.setTop (mkF m pc Ls (.int y :: .int x :: st))) := by
  subst hq hz; exact Go.st (XS.ishl X.here hx rfl hd rfl) kk
theorem g_ishr (X : Stand p l e R s m args below meth c T locs cells slots) (hx : p.tables.exec = Jvm.exec) (hd : decode c.code pc = .ok (.ishr, 1)) (hq : pc + 1 = q) (hz : x >>> (y &&& 31) = z) (kk : Go p.tables e below Q (T.setTop (mkF m q Ls (.int z :: st)))) : Go p.tables e below Q (T.setTop (mkF m pc Ls (.int y :: .int x :: st))) := by
  subst hq hz; exact Go.st (XS.ishr X.here hx rfl hd rfl) kk
theorem g_iushr (X : Stand p l e R s m args below meth c T locs cells slots) (hx : p.tables.exec = Jvm.exec) (hd : decode c.code pc = .ok (.iushr, 1)) (hq : pc + 1 = q) (hz : (x.toUInt32 >>> (y &&& 31).toUInt32).toInt32 = z) (kk : Go p.tables e below Q (T.setTop (mkF m q Ls (.int z :: st)))) : Go p.tables e below Q (T.setTop (mkF m pc Ls (.int y :: .int x :: st))) := by
  subst hq hz; exact Go.st (XS.iushr X.here hx rfl hd rfl) kk
theorem g_irem (X : Stand p l e R s m args below meth c T locs cells slots) (hx : p.tables.exec = Jvm.exec) (hd : decode c.code pc = .ok (.irem, 1)) (hq : pc + 1 = q) (hy : y ≠ 0) (hz : x % y = z) (kk : Go p.tables e below Q (T.setTop (mkF m q Ls (.int z :: st)))) : Go p.tables e below Q (T.setTop (mkF m pc Ls (.int y :: .int x :: st))) := by
  subst hq hz; exact Go.st (iremM X hx rfl hd rfl hy) kk
theorem g_idiv (X : Stand p l e R s m args below meth c T locs cells slots) (hx : p.tables.exec = Jvm.exec) (hd : decode c.code pc = .ok (.idiv, 1)) (hq : pc + 1 = q) (hy : y ≠ 0) (hz : x / y = z) (kk : Go p.tables e below Q (T.setTop (mkF m q Ls (.int z :: st)))) : Go p.tables e below Q (T.setTop (mkF m pc Ls (.int y :: .int x :: st))) := by
  subst hq hz; exact Go.st (XS.idiv X.here hx rfl hd rfl hy) kk
theorem g_ladd (X : Stand p l e R s m args below meth c T locs cells slots) (hx : p.tables.exec = Jvm.exec) (hd : decode c.code pc = .ok (.ladd, 1)) (hq : pc + 1 = q) (hz : jx + jy = jz) (kk : Go p.tables e below Q (T.setTop (mkF m q Ls (.long jz :: st)))) : Go p.tables e below Q (T.setTop (mkF m pc Ls (.long jy :: .long jx :: st))) := by
  subst hq hz; exact Go.st (XS.ladd X.here hx rfl hd rfl) kk
theorem g_lsub (X : Stand p l e R s m args below meth c T locs cells slots) (hx : p.tables.exec = Jvm.exec) (hd : decode c.code pc = .ok (.lsub, 1)) (hq : pc + 1 = q) (hz : jx - jy = jz) (kk : Go p.tables e below Q (T.setTop (mkF m q Ls (.long jz :: st)))) : Go p.tables e below Q (T.setTop (mkF m pc Ls (.long jy :: .long jx :: st))) := by
  subst hq hz; exact Go.st (XS.lsub X.here hx rfl hd rfl) kk
theorem g_lmul (X : Stand p l e R s m args below meth c T locs cells slots) (hx : p.tables.exec = Jvm.exec) (hd : decode c.code pc = .ok (.lmul, 1)) (hq : pc + 1 = q) (hz : jx * jy = jz) (kk : Go p.tables e below Q (T.setTop (mkF m q Ls (.long jz :: st)))) : Go p.tables e below Q (T.setTop (mkF m pc Ls (.long jy :: .long jx :: st))) := by
  subst hq hz; exact Go.st (XS.lmul X.here hx rfl hd rfl) kk
theorem g_land (X : Stand p l e R s m args below meth c T locs cells slots) (hx : p.tables.exec = Jvm.exec) (hd : decode c.code pc = .ok (.land, 1)) (hq : pc + 1 = q) (hz : jx &&& jy = jz) (kk : Go p.tables e below Q (T.setTop (mkF m q Ls (.long jz :: st)))) : Go p.tables e below Q (T.setTop (mkF m pc Ls (.long jy :: .long jx :: st))) := by
  subst hq hz; exact Go.st (XS.land X.here hx rfl hd rfl) kk
theorem g_lor (X : Stand p l e R s m args below meth c T locs cells slots) (hx : p.tables.exec = Jvm.exec) (hd : decode c.code pc = .ok (.lor, 1)) (hq : pc + 1 = q) (hz : jx ||| jy = jz) (kk : Go p.tables e below Q (T.setTop (mkF m q Ls (.long jz :: st)))) : Go p.tables e below Q (T.setTop (mkF m pc Ls (.long jy :: .long jx :: st))) := by
  subst hq hz; exact Go.st (XS.lor X.here hx rfl hd rfl) kk
theorem g_lxor (X : Stand p l e R s m args below meth c T locs cells slots) (hx : p.tables.exec = Jvm.exec) (hd : decode c.code pc = .ok (.lxor, 1)) (hq : pc + 1 = q) (hz : jx ^^^ jy = jz) (kk : Go p.tables e below Q (T.setTop (mkF m q Ls (.long jz :: st)))) : Go p.tables e below Q (T.setTop (mkF m pc Ls (.long jy :: .long jx :: st))) := by
  subst hq hz; exact Go.st (XS.lxor X.here hx rfl hd rfl) kk
theorem g_ldiv (X : Stand p l e R s m args below meth c T locs cells slots) (hx : p.tables.exec = Jvm.exec) (hd : decode c.code pc = .ok (.ldiv, 1)) (hq : pc + 1 = q) (hy : jy ≠ 0) (hz : jx / jy = jz) (kk : Go p.tables e below Q (T.setTop (mkF m q Ls (.long jz :: st)))) : Go p.tables e below Q (T.setTop (mkF m pc Ls (.long jy :: .long jx :: st))) := by
  subst hq hz; exact Go.st (XS.ldiv X.here hx rfl hd rfl hy) kk
theorem g_lrem (X : Stand p l e R s m args below meth c T locs cells slots) (hx : p.tables.exec = Jvm.exec) (hd : decode c.code pc = .ok (.lrem, 1)) (hq : pc + 1 = q) (hy : jy ≠ 0) (hz : jx - (jx / jy) * jy = jz) (kk : Go p.tables e below Q (T.setTop (mkF m q Ls (.long jz :: st)))) : Go p.tables e below Q (T.setTop (mkF m pc Ls (.long jy :: .long jx :: st))) := by
  subst hq hz; exact Go.st (XS.lrem X.here hx rfl hd rfl hy) kk
theorem g_lshl (X : Stand p l e R s m args below meth c T locs cells slots) (hx : p.tables.exec = Jvm.exec) (hd : decode c.code pc = .ok (.lshl, 1)) (hq : pc + 1 = q) (hz : jx <<< (y &&& 0x3f).toInt64 = jz) (kk : Go p.tables e below Q (T.setTop (mkF m q Ls (.long jz :: st)))) : Go p.tables e below Q (T.setTop (mkF m pc Ls (.int y :: .long jx :: st))) := by
  subst hq hz; exact Go.st (XS.lshl X.here hx rfl hd rfl) kk
theorem g_lshr (X : Stand p l e R s m args below meth c T locs cells slots) (hx : p.tables.exec = Jvm.exec) (hd : decode c.code pc = .ok (.lshr, 1)) (hq : pc + 1 = q) (hz : jx >>> (y &&& 0x3f).toInt64 = jz) (kk : Go p.tables e below Q (T.setTop (mkF m q Ls (.long jz :: st)))) : Go p.tables e below Q (T.setTop (mkF m pc Ls (.int y :: .long jx :: st))) := by
  subst hq hz; exact Go.st (XS.lshr X.here hx rfl hd rfl) kk
theorem g_lushr (X : Stand p l e R s m args below meth c T locs cells slots) (hx : p.tables.exec = Jvm.exec) (hd : decode c.code pc = .ok (.lushr, 1)) (hq : pc + 1 = q) (hz : (jx.toUInt64 >>> (y &&& 0x3f).toInt64.toUInt64).toInt64 = jz) (kk : Go p.tables e below Q (T.setTop (mkF m q Ls (.long jz :: st)))) : Go p.tables e below Q (T.setTop (mkF m pc Ls (.int y :: .long jx :: st))) := by
  subst hq hz; exact Go.st (XS.lushr X.here hx rfl hd rfl) kk
theorem g_lcmp (X : Stand p l e R s m args below meth c T locs cells slots) (hx : p.tables.exec = Jvm.exec) (hd : decode c.code pc = .ok (.lcmp, 1)) (hq : pc + 1 = q) (hz : lcmpW jx jy = z) (kk : Go p.tables e below Q (T.setTop (mkF m q Ls (.int z :: st)))) : Go p.tables e below Q (T.setTop (mkF m pc Ls (.long jy :: .long jx :: st))) := by
  subst hq hz; exact Go.st (XS.lcmp X.here hx rfl hd rfl) kk
theorem g_ineg (X : Stand p l e R s m args below meth c T locs cells slots) (hx : p.tables.exec = Jvm.exec) (hd : decode c.code pc = .ok (.ineg, 1)) (hq : pc + 1 = q) (hz : -x = z) (kk : Go p.tables e below Q (T.setTop (mkF m q Ls (.int z :: st)))) : Go p.tables e below Q (T.setTop (mkF m pc Ls (.int x :: st))) := by
  subst hq hz; exact Go.st (XS.ineg X.here hx rfl hd rfl) kk
theorem g_i2b (X : Stand p l e R s m args below meth c T locs cells slots) (hx : p.tables.exec = Jvm.exec) (hd : decode c.code pc = .ok (.i2b, 1)) (hq : pc + 1 = q) (hz : x.toInt8.toInt32 = z) (kk : Go p.tables e below Q (T.setTop (mkF m q Ls (.int z :: st)))) : Go p.tables e below Q (T.setTop (mkF m pc Ls (.int x :: st))) := by
  subst hq hz; exact Go.st (XS.i2b X.here hx rfl hd rfl) kk
theorem g_i2c (X : Stand p l e R s m args below meth c T locs cells slots) (hx : p.tables.exec = Jvm.exec) (hd : decode c.code pc = .ok (.i2c, 1)) (hq : pc + 1 = q) (hz : x.toUInt32.toUInt16.toUInt32.toInt32 = z) (kk : Go p.tables e below Q (T.setTop (mkF m q Ls (.int z :: st)))) : Go p.tables e below Q (T.setTop (mkF m pc Ls (.int x :: st))) := by
  subst hq hz; exact Go.st (XS.i2c X.here hx rfl hd rfl) kk
theorem g_i2s (X : Stand p l e R s m args below meth c T locs cells slots) (hx : p.tables.exec = Jvm.exec) (hd : decode c.code pc = .ok (.i2s, 1)) (hq : pc + 1 = q) (hz : x.toInt16.toInt32 = z) (kk : Go p.tables e below Q (T.setTop (mkF m q Ls (.int z :: st)))) : Go p.tables e below Q (T.setTop (mkF m pc Ls (.int x :: st))) := by
  subst hq hz; exact Go.st (XS.i2s X.here hx rfl hd rfl) kk
theorem g_i2l (X : Stand p l e R s m args below meth c T locs cells slots) (hx : p.tables.exec = Jvm.exec) (hd : decode c.code pc = .ok (.i2l, 1)) (hq : pc + 1 = q) (hz : x.toInt64 = jz) (kk : Go p.tables e below Q (T.setTop (mkF m q Ls (.long jz :: st)))) : Go p.tables e below Q (T.setTop (mkF m pc Ls (.int x :: st))) := by
  subst hq hz; exact Go.st (XS.i2l X.here hx rfl hd rfl) kk
theorem g_l2i (X : Stand p l e R s m args below meth c T locs cells slots) (hx : p.tables.exec = Jvm.exec) (hd : decode c.code pc = .ok (.l2i, 1)) (hq : pc + 1 = q) (hz : jx.toInt32 = z) (kk : Go p.tables e below Q (T.setTop (mkF m q Ls (.int z :: st)))) : Go p.tables e below Q (T.setTop (mkF m pc Ls (.long jx :: st))) := by
  subst hq hz; exact Go.st (XS.l2i X.here hx rfl hd rfl) kk
theorem g_lneg (X : Stand p l e R s m args below meth c T locs cells slots) (hx : p.tables.exec = Jvm.exec) (hd : decode c.code pc = .ok (.lneg, 1)) (hq : pc + 1 = q) (hz : -jx = jz) (kk : Go p.tables e below Q (T.setTop (mkF m q Ls (.long jz :: st)))) : Go p.tables e below Q (T.setTop (mkF m pc Ls (.long jx :: st))) := by
  subst hq hz; exact Go.st (XS.lneg X.here hx rfl hd rfl) kk
theorem g_iinc (X : Stand p l e R s m args below meth c T locs cells slots) (hx : p.tables.exec = Jvm.exec) {j : Int} (hd : decode c.code pc = .ok (.iinc k j, 3)) (hq : pc + 3 = q) (hl : Ls[k]? = some (.val (.int x))) (hz : x + Int32.ofInt j = z) (hl2 : storeLocals Ls k (.int z) = some Ls') (kk : Go p.tables e below Q (T.setTop (mkF m q Ls' st))) : Go p.tables e below Q (T.setTop (mkF m pc Ls st)) := by
  subst hq hz; exact Go.st (XS.iinc X.here hx rfl hd hl hl2) kk
theorem g_dup (X : Stand p l e R s m args below meth c T locs cells slots) (hx : p.tables.exec = Jvm.exec) (hd : decode c.code pc = .ok (.dup, 1)) (hq : pc + 1 = q) (hc : v.category = 1) (kk : Go p.tables e below Q (T.setTop (mkF m q Ls (v :: v :: st)))) : Go p.tables e below Q (T.setTop (mkF m pc Ls (v :: st))) := by
  subst hq; exact Go.st (XS.dup X.here hx rfl hd rfl hc) kk
theorem g_dupX1 (X : Stand p l e R s m args below meth c T locs cells slots) (hx : p.tables.exec = Jvm.exec) (hd : decode c.code pc = .ok (.dup_x1, 1)) (hq : pc + 1 = q) (hc : v.category = 1) (hc2 : w.category = 1) (kk : Go p.tables e below Q (T.setTop (mkF m q Ls (v :: w :: v :: st)))) : Go p.tables e below Q (T.setTop (mkF m pc Ls (v :: w :: st))) := by
  subst hq; exact Go.st (XS.dupX1 X.here hx rfl hd rfl hc hc2) kk
theorem g_dup2 (X : Stand p l e R s m args below meth c T locs cells slots) (hx : p.tables.exec = Jvm.exec) (hd : decode c.code pc = .ok (.dup2, 1)) (hq : pc + 1 = q) (hc : v.category = 1) (hc2 : w.category = 1) (kk : Go p.tables e below Q (T.setTop (mkF m q Ls (v :: w :: v :: w :: st)))) : Go p.tables e below Q (T.setTop (mkF m pc Ls (v :: w :: st))) := by
  subst hq; exact Go.st (Jvm.Free.XT.dup2 X.here hx rfl hd rfl hc hc2) kk
theorem g_dup2L (X : Stand p l e R s m args below meth c T locs cells slots) (hx : p.tables.exec = Jvm.exec) (hd : decode c.code pc = .ok (.dup2, 1)) (hq : pc + 1 = q) (kk : Go p.tables e below Q (T.setTop (mkF m q Ls (.long jx :: .long jx :: st)))) : Go p.tables e below Q (T.setTop (mkF m pc Ls (.long jx :: st))) := by
  subst hq; exact Go.st (Jvm.Free.XT.dup2L X.here hx rfl hd rfl) kk
theorem g_pop (X : Stand p l e R s m args below meth c T locs cells slots) (hx : p.tables.exec = Jvm.exec) (hd : decode c.code pc = .ok (.pop, 1)) (hq : pc + 1 = q) (hc : v.category = 1) (kk : Go p.tables e below Q (T.setTop (mkF m q Ls st))) : Go p.tables e below Q (T.setTop (mkF m pc Ls (v :: st))) := by
  subst hq; exact Go.st (XS.pop X.here hx rfl hd rfl hc) kk
theorem g_goto (X : Stand p l e R s m args below meth c T locs cells slots) (hx : p.tables.exec = Jvm.exec) {j : Int} (hd : decode c.code pc = .ok (.goto j, 3)) (ho : 0 ≤ (pc : Int) + j) (hp : ((pc : Int) + j).toNat = q) (kk : Go p.tables e below Q (T.setTop (mkF m q Ls st))) : Go p.tables e below Q (T.setTop (mkF m pc Ls st)) := by
  exact Go.st (XS.goto X.here hx rfl rfl hd ho hp) kk
theorem ifY (X : Stand p l e R s m args below meth c T locs cells slots) (hx : p.tables.exec = Jvm.exec) {j : Int} {cd : ClassFile.Cond} (hd : decode c.code pc = .ok (.ifCond cd j, 3)) (ho : 0 ≤ (pc : Int) + j) (hp : ((pc : Int) + j).toNat = q) (hc : ifCond.holds cd x = true) (kk : Go p.tables e below Q (T.setTop (mkF m q Ls st))) : Go p.tables e below Q (T.setTop (mkF m pc Ls (.int x :: st))) := by
  exact Go.st (XS.ifYes X.here hx rfl rfl hd rfl hc ho hp) kk
theorem ifN (X : Stand p l e R s m args below meth c T locs cells slots) (hx : p.tables.exec = Jvm.exec) {j : Int} {cd : ClassFile.Cond} (hd : decode c.code pc = .ok (.ifCond cd j, 3)) (hq : pc + 3 = q) (hc : ifCond.holds cd x = false) (kk : Go p.tables e below Q (T.setTop (mkF m q Ls st))) : Go p.tables e below Q (T.setTop (mkF m pc Ls (.int x :: st))) := by
  subst hq; exact Go.st (XS.ifNo X.here hx rfl hd rfl hc) kk
theorem icY (X : Stand p l e R s m args below meth c T locs cells slots) (hx : p.tables.exec = Jvm.exec) {j : Int} {cd : ClassFile.Cond} (hd : decode c.code pc = .ok (.if_icmp cd j, 3)) (ho : 0 ≤ (pc : Int) + j) (hp : ((pc : Int) + j).toNat = q) (hc : if_icmp.holds cd x y = true) (kk : Go p.tables e below Q (T.setTop (mkF m q Ls st))) : Go p.tables e below Q (T.setTop (mkF m pc Ls (.int y :: .int x :: st))) := by
  exact Go.st (XS.icmpYes X.here hx rfl rfl hd rfl hc ho hp) kk
theorem icN (X : Stand p l e R s m args below meth c T locs cells slots) (hx : p.tables.exec = Jvm.exec) {j : Int} {cd : ClassFile.Cond} (hd : decode c.code pc = .ok (.if_icmp cd j, 3)) (hq : pc + 3 = q) (hc : if_icmp.holds cd x y = false) (kk : Go p.tables e below Q (T.setTop (mkF m q Ls st))) : Go p.tables e below Q (T.setTop (mkF m pc Ls (.int y :: .int x :: st))) := by
  subst hq; exact Go.st (XS.icmpNo X.here hx rfl hd rfl hc) kk
theorem nlY (X : Stand p l e R s m args below meth c T locs cells slots) (hx : p.tables.exec = Jvm.exec) {j : Int} (hd : decode c.code pc = .ok (.ifnull j, 3)) (ho : 0 ≤ (pc : Int) + j) (hp : ((pc : Int) + j).toNat = q) (kk : Go p.tables e below Q (T.setTop (mkF m q Ls st))) : Go p.tables e below Q (T.setTop (mkF m pc Ls (.null :: st))) := by
  exact Go.st (XS.ifnullYes X.here hx rfl rfl hd rfl ho hp) kk
theorem nlN (X : Stand p l e R s m args below meth c T locs cells slots) (hx : p.tables.exec = Jvm.exec) {j : Int} (hd : decode c.code pc = .ok (.ifnull j, 3)) (hq : pc + 3 = q) (kk : Go p.tables e below Q (T.setTop (mkF m q Ls st))) : Go p.tables e below Q (T.setTop (mkF m pc Ls (.ref a :: st))) := by
  subst hq; exact Go.st (XS.ifnullNo X.here hx rfl hd rfl) kk
theorem nnY (X : Stand p l e R s m args below meth c T locs cells slots) (hx : p.tables.exec = Jvm.exec) {j : Int} (hd : decode c.code pc = .ok (.ifnonnull j, 3)) (ho : 0 ≤ (pc : Int) + j) (hp : ((pc : Int) + j).toNat = q) (kk : Go p.tables e below Q (T.setTop (mkF m q Ls st))) : Go p.tables e below Q (T.setTop (mkF m pc Ls (.ref a :: st))) := by
  exact Go.st (XS.ifnonnullYes X.here hx rfl rfl hd rfl ho hp) kk
theorem nnN (X : Stand p l e R s m args below meth c T locs cells slots) (hx : p.tables.exec = Jvm.exec) {j : Int} (hd : decode c.code pc = .ok (.ifnonnull j, 3)) (hq : pc + 3 = q) (kk : Go p.tables e below Q (T.setTop (mkF m q Ls st))) : Go p.tables e below Q (T.setTop (mkF m pc Ls (.null :: st))) := by
  subst hq; exact Go.st (XS.ifnonnullNo X.here hx rfl hd rfl) kk
theorem g_acmp (X : Stand p l e R s m args below meth c T locs cells slots) (hx : p.tables.exec = Jvm.exec) {j : Int} {cd : ACond} (hd : decode c.code pc = .ok (.if_acmp cd j, 3)) (h1 : v.isRef = true) (h2 : w.isRef = true) {same : Bool} (hs : decide (v = w) = same) (ho : 0 ≤ (pc : Int) + j) (hp : q = if acV cd same = true then ((pc : Int) + j).toNat else pc + 3) (kk : Go p.tables e below Q (T.setTop (mkF m q Ls st))) : Go p.tables e below Q (T.setTop (mkF m pc Ls (w :: v :: st))) := by
  exact Go.st (acmp X hx rfl h1 h2 rfl hd rfl hs ho hp) kk
theorem g_new (X : Stand p l e R s m args below meth c T locs cells slots) (hx : p.tables.exec = Jvm.exec) (hZ : Z.Warmed39 s.vm) (hown : s.vm.findClass own = some m.cls) (w1 : (Jvm.Cond.classLink own index C).before a0 Z = true) (w2 : (Jvm.Cond.instantiable C k).before a0 Z = true) (w3 : (Jvm.Cond.initialized C).before a0 Z = true) (hc : cells + 1 ≤ R.cells) (hl : slots + k ≤ R.slots) (eT : T.heap = h) (hd : decode c.code pc = .ok (.new index, 3)) (hq : pc + 3 = q) (kk : ∀ (T' : State) (h' : Heap) (b : Addr), b = h.size → Stand p l e R s m args below meth c T' locs (cells + 1) (slots + k) → T'.heap = h' → Ext h h' → Exa Z h' b C → (∀ {O nm d : String} {ty : FieldType}, Laid Z a0 C O nm d → parseFieldDescriptor d = some ty → Fld Z h' b O nm d (defaultValue ty)) → Go p.tables e below Q (T'.setTop (mkF m q Ls (.ref b :: st)))) : Go p.tables e below Q (T.setTop (mkF m pc Ls st)) := by
  subst hq
  obtain ⟨T', h', X', e', E', A', D', -, st'⟩ := newO X hx hZ hown w1 w2 w3 eT (g := mkF m pc Ls st) rfl hd hc hl
  exact Go.to st' (kk T' h' _ rfl X' e' E' A' D')
theorem g_newA (X : Stand p l e R s m args below meth c T locs cells slots) (hx : p.tables.exec = Jvm.exec) (hZ : Z.Warmed39 s.vm) {aty : ArrayType} (w1 : (Jvm.Cond.arrayClass (newarray.typeOf aty)).before a0 Z = true) (hn : ¬ z < 0) {n : Nat} (hk : z.toNatClampNeg = n) (hb : n * 8 ≤ 536870912) (hc : cells + 1 ≤ R.cells) (hl : slots + n ≤ R.slots) (eT : T.heap = h) (hd : decode c.code pc = .ok (.newarray aty, 2)) (hq : pc + 2 = q) (kk : ∀ (T' : State) (h' : Heap) (kc : ClassId) (b : Addr), b = h.size → Stand p l e R s m args below meth c T' locs (cells + 1) (slots + n) → T'.heap = h' → Ext h h' → Arv Z h' b kc (newarray.typeOf aty) z (List.replicate n (defaultValue (newarray.typeOf aty))) (defaultValue (newarray.typeOf aty)) → Go p.tables e below Q (T'.setTop (mkF m q Ls (.ref b :: st)))) : Go p.tables e below Q (T.setTop (mkF m pc Ls (.int z :: st))) := by
  subst hq
  obtain ⟨T', h', kc, X', e', E', V', st'⟩ := newArr X hx hZ w1 eT (g := mkF m pc Ls (.int z :: st)) rfl hd rfl hn hk hb hc hl
  exact Go.to st' (kk T' h' kc _ rfl X' e' E' V')
theorem g_stC (X : Stand p l e R s m args below meth c T locs cells slots) (hx : p.tables.exec = Jvm.exec) (hZ : Z.Warmed39 s.vm) (A : Arv Z h a kc .char z vs d) {j : Int32} (hj : j.toNatClampNeg = i) (h0 : ¬ j < 0) (hjz : j < z) (hi : i < vs.length) (hn : nar .char x = y) (eT : T.heap = h) (hd : decode c.code pc = .ok (.castore, 1)) (hq : pc + 1 = q) (kk : ∀ (T' : State) (h' : Heap), Stand p l e R s m args below meth c T' (locs ++ [⟨a, i⟩]) cells slots → T'.heap = h' → Wr h h' a i (.int y) → Arv Z h' a kc .char z (vs.set i (.int y)) d → Go p.tables e below Q (T'.setTop (mkF m q Ls st))) : Go p.tables e below Q (T.setTop (mkF m pc Ls (.int x :: .int j :: .ref a :: st))) := by
  subst hq
  obtain ⟨T', h', X', e', W', V', st'⟩ := setC X hx hZ eT A hj h0 hjz hi hn (g := mkF m pc Ls (.int x :: .int j :: .ref a :: st)) rfl rfl hd
  exact Go.to st' (kk T' h' X' e' W' V')
theorem g_stB (X : Stand p l e R s m args below meth c T locs cells slots) (hx : p.tables.exec = Jvm.exec) (hZ : Z.Warmed39 s.vm) (A : Arv Z h a kc .byte z vs d) {j : Int32} (hj : j.toNatClampNeg = i) (h0 : ¬ j < 0) (hjz : j < z) (hi : i < vs.length) (hn : nar .byte x = y) (eT : T.heap = h) (hd : decode c.code pc = .ok (.bastore, 1)) (hq : pc + 1 = q) (kk : ∀ (T' : State) (h' : Heap), Stand p l e R s m args below meth c T' (locs ++ [⟨a, i⟩]) cells slots → T'.heap = h' → Wr h h' a i (.int y) → Arv Z h' a kc .byte z (vs.set i (.int y)) d → Go p.tables e below Q (T'.setTop (mkF m q Ls st))) : Go p.tables e below Q (T.setTop (mkF m pc Ls (.int x :: .int j :: .ref a :: st))) := by
  subst hq
  obtain ⟨T', h', X', e', W', V', st'⟩ := setB X hx hZ eT A hj h0 hjz hi hn (g := mkF m pc Ls (.int x :: .int j :: .ref a :: st)) rfl rfl hd
  exact Go.to st' (kk T' h' X' e' W' V')
theorem g_stI (X : Stand p l e R s m args below meth c T locs cells slots) (hx : p.tables.exec = Jvm.exec) (hZ : Z.Warmed39 s.vm) (A : Arv Z h a kc .int z vs d) {j : Int32} (hj : j.toNatClampNeg = i) (h0 : ¬ j < 0) (hjz : j < z) (hi : i < vs.length) (eT : T.heap = h) (hd : decode c.code pc = .ok (.iastore, 1)) (hq : pc + 1 = q) (kk : ∀ (T' : State) (h' : Heap), Stand p l e R s m args below meth c T' (locs ++ [⟨a, i⟩]) cells slots → T'.heap = h' → Wr h h' a i (.int x) → Arv Z h' a kc .int z (vs.set i (.int x)) d → Go p.tables e below Q (T'.setTop (mkF m q Ls st))) : Go p.tables e below Q (T.setTop (mkF m pc Ls (.int x :: .int j :: .ref a :: st))) := by
  subst hq
  obtain ⟨T', h', X', e', W', V', st'⟩ := setI X hx hZ eT A hj h0 hjz hi  (g := mkF m pc Ls (.int x :: .int j :: .ref a :: st)) rfl rfl hd
  exact Go.to st' (kk T' h' X' e' W' V')
theorem g_stR (X : Stand p l e R s m args below meth c T locs cells slots) (hx : p.tables.exec = Jvm.exec) (hZ : Z.Warmed39 s.vm) (A : Arv Z h a kc ty z vs d) (hty : ty.isReference = true) (F : Sto Z h a v) (hfit : fits ty v = true) {j : Int32} (hj : j.toNatClampNeg = i) (h0 : ¬ j < 0) (hjz : j < z) (hi : i < vs.length) (eT : T.heap = h) (hd : decode c.code pc = .ok (.aastore, 1)) (hq : pc + 1 = q) (kk : ∀ (T' : State) (h' : Heap), Stand p l e R s m args below meth c T' (locs ++ [⟨a, i⟩]) cells slots → T'.heap = h' → Wr h h' a i v → Arv Z h' a kc ty z (vs.set i v) d → Go p.tables e below Q (T'.setTop (mkF m q Ls st))) : Go p.tables e below Q (T.setTop (mkF m pc Ls (v :: .int j :: .ref a :: st))) := by
  subst hq
  obtain ⟨T', h', X', e', W', V', st'⟩ := setR X hx hZ eT A hty F hfit hj h0 hjz hi (g := mkF m pc Ls (v :: .int j :: .ref a :: st)) rfl rfl hd
  exact Go.to st' (kk T' h' X' e' W' V')
theorem g_ldC (X : Stand p l e R s m args below meth c T locs cells slots) (hx : p.tables.exec = Jvm.exec) (hZ : Z.Warmed39 s.vm) (A : Arv Z h a kc .char z vs d) {j : Int32} (hj : j.toNatClampNeg = i) (h0 : ¬ j < 0) (hjz : j < z) (hv : vs.getD i d = v) (eT : T.heap = h) (hd : decode c.code pc = .ok (.caload, 1)) (hq : pc + 1 = q) (kk : Go p.tables e below Q (T.setTop (mkF m q Ls (v :: st)))) : Go p.tables e below Q (T.setTop (mkF m pc Ls (.int j :: .ref a :: st))) := by
  subst hq
  exact Go.to (ldC X hx hZ eT A hj h0 hjz hv (g := mkF m pc Ls (.int j :: .ref a :: st)) rfl rfl hd) kk
theorem g_ldB (X : Stand p l e R s m args below meth c T locs cells slots) (hx : p.tables.exec = Jvm.exec) (hZ : Z.Warmed39 s.vm) (A : Arv Z h a kc .byte z vs d) {j : Int32} (hj : j.toNatClampNeg = i) (h0 : ¬ j < 0) (hjz : j < z) (hv : vs.getD i d = v) (eT : T.heap = h) (hd : decode c.code pc = .ok (.baload, 1)) (hq : pc + 1 = q) (kk : Go p.tables e below Q (T.setTop (mkF m q Ls (v :: st)))) : Go p.tables e below Q (T.setTop (mkF m pc Ls (.int j :: .ref a :: st))) := by
  subst hq
  exact Go.to (ldB X hx hZ eT A hj h0 hjz hv (g := mkF m pc Ls (.int j :: .ref a :: st)) rfl rfl hd) kk
theorem g_ldI (X : Stand p l e R s m args below meth c T locs cells slots) (hx : p.tables.exec = Jvm.exec) (hZ : Z.Warmed39 s.vm) (A : Arv Z h a kc .int z vs d) {j : Int32} (hj : j.toNatClampNeg = i) (h0 : ¬ j < 0) (hjz : j < z) (hv : vs.getD i d = v) (eT : T.heap = h) (hd : decode c.code pc = .ok (.iaload, 1)) (hq : pc + 1 = q) (kk : Go p.tables e below Q (T.setTop (mkF m q Ls (v :: st)))) : Go p.tables e below Q (T.setTop (mkF m pc Ls (.int j :: .ref a :: st))) := by
  subst hq
  exact Go.to (ldI X hx hZ eT A hj h0 hjz hv (g := mkF m pc Ls (.int j :: .ref a :: st)) rfl rfl hd) kk
theorem g_ldR (X : Stand p l e R s m args below meth c T locs cells slots) (hx : p.tables.exec = Jvm.exec) (hZ : Z.Warmed39 s.vm) (A : Arv Z h a kc ty z vs d) (hty : ty.isReference = true) {j : Int32} (hj : j.toNatClampNeg = i) (h0 : ¬ j < 0) (hjz : j < z) (hv : vs.getD i d = v) (eT : T.heap = h) (hd : decode c.code pc = .ok (.aaload, 1)) (hq : pc + 1 = q) (kk : Go p.tables e below Q (T.setTop (mkF m q Ls (v :: st)))) : Go p.tables e below Q (T.setTop (mkF m pc Ls (.int j :: .ref a :: st))) := by
  subst hq
  exact Go.to (ldR X hx hZ eT A hty hj h0 hjz hv (g := mkF m pc Ls (.int j :: .ref a :: st)) rfl rfl hd) kk
theorem g_len (X : Stand p l e R s m args below meth c T locs cells slots) (hx : p.tables.exec = Jvm.exec) (hZ : Z.Warmed39 s.vm) (A : Arv Z h a kc ty z vs d) (eT : T.heap = h) (hd : decode c.code pc = .ok (.arraylength, 1)) (hq : pc + 1 = q) (kk : Go p.tables e below Q (T.setTop (mkF m q Ls (.int z :: st)))) : Go p.tables e below Q (T.setTop (mkF m pc Ls (.ref a :: st))) := by
  subst hq
  exact Go.to (alen X hx hZ eT A (g := mkF m pc Ls (.ref a :: st)) rfl rfl hd) kk
theorem g_getF (X : Stand p l e R s m args below meth c T locs cells slots) (hx : p.tables.exec = Jvm.exec) (hZ : Z.Warmed39 s.vm) (hown : s.vm.findClass own = some m.cls) {R0 host : String} (wl : (Jvm.Cond.fieldLink own index R0 f dd).before a0 Z = true ∨ (Jvm.Cond.fieldLinkNest own index R0 f dd host).before a0 Z = true) (via : Via Z R0 O f dd) (F : Fld Z h a O f dd v) (eT : T.heap = h) (hd : decode c.code pc = .ok (.getfield index, 3)) (hq : pc + 3 = q) (kk : ∀ (T' : State), Stand p l e R s m args below meth c T' locs cells slots → T'.heap = h → Go p.tables e below Q (T'.setTop (mkF m q Ls (v :: st)))) : Go p.tables e below Q (T.setTop (mkF m pc Ls (.ref a :: st))) := by
  subst hq
  obtain ⟨T', X', e', st'⟩ := getF X hx hZ hown wl via eT F (g := mkF m pc Ls (.ref a :: st)) rfl rfl hd
  exact Go.to st' (kk T' X' e')
theorem g_putF (X : Stand p l e R s m args below meth c T locs cells slots) (hx : p.tables.exec = Jvm.exec) (hZ : Z.Warmed39 s.vm) (hown : s.vm.findClass own = some m.cls) {R0 host : String} {kk2 : Nat} (wl : (Jvm.Cond.fieldLink own index R0 f dd).before a0 Z = true ∨ (Jvm.Cond.fieldLinkNest own index R0 f dd host).before a0 Z = true) (via : Via Z R0 O f dd) {old : Value} (F : Fld Z h a O f dd old) (E : Exa Z h a C) (L : (Jvm.Cond.lays C O f dd).before a0 Z = true ∨ ((Jvm.Cond.laysFinal C O f dd).before a0 Z = true ∧ own = O ∧ meth.name = "<init>")) (wi : (Jvm.Cond.instantiable C kk2).before a0 Z = true) (hty : parseFieldDescriptor dd = some ty) (hn : narrow ty v = v) (hf : fits ty v = true) (eT : T.heap = h) (hd : decode c.code pc = .ok (.putfield index, 3)) (hq : pc + 3 = q) (kk : ∀ (T' : State) (h' : Heap), Stand p l e R s m args below meth c T' (locs ++ [⟨a, Jvm.RoadKit.slotOf Z O f dd⟩]) cells slots → T'.heap = h' → Wr h h' a (Jvm.RoadKit.slotOf Z O f dd) v → Go p.tables e below Q (T'.setTop (mkF m q Ls st))) : Go p.tables e below Q (T.setTop (mkF m pc Ls (v :: .ref a :: st))) := by
  subst hq
  obtain ⟨T', h', X', e', W', st'⟩ := putF X hx hZ hown wl via eT F E L wi hty hn hf (g := mkF m pc Ls (v :: .ref a :: st)) rfl rfl hd
  exact Go.to st' (kk T' h' X' e' W')
theorem g_getS (X : Stand p l e R s m args below meth c T locs cells slots) (hx : p.tables.exec = Jvm.exec) (hZ : Z.Warmed39 s.vm) (hown : s.vm.findClass own = some m.cls) {R0 host : String} (wl : (Jvm.Cond.fieldLink own index R0 f dd).before a0 Z = true ∨ (Jvm.Cond.fieldLinkNest own index R0 f dd host).before a0 Z = true) (via : Via Z R0 O f dd) (F : Sta Z h O f dd v) (eT : T.heap = h) (hd : decode c.code pc = .ok (.getstatic index, 3)) (hq : pc + 3 = q) (kk : ∀ (T' : State), Stand p l e R s m args below meth c T' locs cells slots → T'.heap = h → Go p.tables e below Q (T'.setTop (mkF m q Ls (v :: st)))) : Go p.tables e below Q (T.setTop (mkF m pc Ls st)) := by
  subst hq
  obtain ⟨T', X', e', st'⟩ := getS2 X hx hZ hown wl via eT F (g := mkF m pc Ls st) rfl hd
  exact Go.to st' (kk T' X' e')
theorem g_cast (X : Stand p l e R s m args below meth c T locs cells slots) (hx : p.tables.exec = Jvm.exec) (hZ : Z.Warmed39 s.vm) (hown : s.vm.findClass own = some m.cls) {K : String} (w1 : (Jvm.Cond.classLink own index K).before a0 Z = true) (I : Ins Z h a K true) (eT : T.heap = h) (hd : decode c.code pc = .ok (.checkcast index, 3)) (hq : pc + 3 = q) (kk : ∀ (T' : State), Stand p l e R s m args below meth c T' locs cells slots → T'.heap = h → Go p.tables e below Q (T'.setTop (mkF m q Ls (.ref a :: st)))) : Go p.tables e below Q (T.setTop (mkF m pc Ls (.ref a :: st))) := by
  subst hq
  obtain ⟨T', X', e', st'⟩ := castY X hx hZ hown w1 eT I (g := mkF m pc Ls (.ref a :: st)) rfl rfl hd
  exact Go.to st' (kk T' X' e')
theorem g_insY (X : Stand p l e R s m args below meth c T locs cells slots) (hx : p.tables.exec = Jvm.exec) (hZ : Z.Warmed39 s.vm) (hown : s.vm.findClass own = some m.cls) {K : String} (w1 : (Jvm.Cond.classLink own index K).before a0 Z = true) (I : Ins Z h a K true) (eT : T.heap = h) (hd : decode c.code pc = .ok (.instanceof index, 3)) (hq : pc + 3 = q) (kk : ∀ (T' : State), Stand p l e R s m args below meth c T' locs cells slots → T'.heap = h → Go p.tables e below Q (T'.setTop (mkF m q Ls (.int 1 :: st)))) : Go p.tables e below Q (T.setTop (mkF m pc Ls (.ref a :: st))) := by
  subst hq
  obtain ⟨T', X', e', st'⟩ := instY X hx hZ hown w1 eT I (g := mkF m pc Ls (.ref a :: st)) rfl rfl hd
  exact Go.to st' (kk T' X' e')
theorem g_insN (X : Stand p l e R s m args below meth c T locs cells slots) (hx : p.tables.exec = Jvm.exec) (hZ : Z.Warmed39 s.vm) (hown : s.vm.findClass own = some m.cls) {K : String} (w1 : (Jvm.Cond.classLink own index K).before a0 Z = true) (E : Exa Z h a C) (F : ∃ c t, Z.vm.findClass C = some c ∧ Z.vm.findClass K = some t ∧ Z.vm.assignable c t = false) (eT : T.heap = h) (hd : decode c.code pc = .ok (.instanceof index, 3)) (hq : pc + 3 = q) (kk : ∀ (T' : State), Stand p l e R s m args below meth c T' locs cells slots → T'.heap = h → Go p.tables e below Q (T'.setTop (mkF m q Ls (.int 0 :: st)))) : Go p.tables e below Q (T.setTop (mkF m pc Ls (.ref a :: st))) := by
  subst hq
  obtain ⟨T', X', e', st'⟩ := instNo X hx hZ hown w1 eT E F (g := mkF m pc Ls (.ref a :: st)) rfl rfl hd
  exact Go.to st' (kk T' X' e')
theorem g_init0 (X : Stand p l e R s m args below meth c T locs cells slots) (hx : p.tables.exec = Jvm.exec) (hZ : Z.Warmed39 s.vm) (hown : s.vm.findClass own = some m.cls) (w1 : (Jvm.Cond.methodLink own index Lib.objectInit).before a0 Z = true) (w2 : (Jvm.Cond.instanceMethod Lib.objectInit).before a0 Z = true) (w3 : (Jvm.Cond.code Lib.objectInit ⟨#[0xb1]⟩ 1 none).before a0 Z = true) (hsize : Ls.size = c.maxLocals) (hf : 1 ≤ R.frames) {W : Nat} (hW : (st.map fun v => v.category).sum ≤ W) (hl : W + 12 ≤ R.locals) (eT : T.heap = h) (hd : decode c.code pc = .ok (.invokespecial index, 3)) (hq : pc + 3 = q) (kk : ∀ (T' : State), Stand p l e R s m args below meth c T' locs cells slots → T'.heap = h → Go p.tables e below Q (T'.setTop (mkF m q Ls st))) : Go p.tables e below Q (T.setTop (mkF m pc Ls (.ref a :: st))) := by
  subst hq
  obtain ⟨T', X', e', st'⟩ := initO X hx hZ hown w1 w2 w3 eT (g := mkF m pc Ls (.ref a :: st)) rfl hsize rfl hd hf (W := W) (by show 2 * 0 + _ ≤ _; omega) hl
  exact Go.to st' (kk T' X' e')
theorem g_ldc {vm0 : Vm} (X : Stand p l e R (s.setVm vm0) m args below meth c T locs cells slots) (hx : p.tables.exec = Jvm.exec) (hZ : Z.Warmed39 vm0) (hown : vm0.findClass own = some m.cls) {text : String} (w : (Jvm.Cond.stringLink own index text).before a0 Z = true) (wS : ∀ a ∈ Bundle.stringAtoms, a.before a0 Z = true) {k0 : Nat} (hS : s.Since vm0 k0) (hk : k0 ≤ h.size) (hEL : EW Z a0 EL) (hmem : (own, index) ∈ EL) (H : CHv Z EL vm0 h) (ht : (∀ c ∈ text.toList, c.toNat < 256) ∧ text.toList.map (fun c => Value.int (Jvm.Lit.byteI c.toNat.toUInt16)) = vs) (hz : ¬ z < 0) (hl : z.toNatClampNeg = vs.length) {n : Nat} (hn : 4 * text.toList.length ≤ n) (hbig : n ≤ 536870912) (hc : cells + 2 ≤ R.cells) (hl' : slots + (n + 4) ≤ R.slots) (eT : T.heap = h) (hd : decode c.code pc = .ok (.ldc index, 2)) (hq : pc + 2 = q) (kk : ∀ (a : Addr) (T' : State) (h' : Heap) (k1 : Nat) (b : Addr) (k : ClassId), Stand p l e R (s.setVm T'.vm) m args below meth c T' locs (cells + 2) (slots + (n + 4)) → T'.heap = h' → Ext h h' → s.Since T'.vm k1 → k1 ≤ h'.size → Z.Warmed39 T'.vm → T'.vm.findClass own = some m.cls → Exa Z h' a "java/lang/String" → Fld Z h' a "java/lang/String" "coder" "B" (.int 0) → Fld Z h' a "java/lang/String" "value" "[B" (.ref b) → Arv Z h' b k .byte z vs (.int 0) → a < h'.size → b < h'.size → CHr Z EL vm0 h T'.vm h' → (∀ x, Safe Z EL T'.vm h' x → x ≠ a ∧ x ≠ b) → Go p.tables e below Q (T'.setTop (mkF m q Ls (.ref a :: st)))) : Go p.tables e below Q (T.setTop (mkF m pc Ls st)) := by
  subst hq
  obtain ⟨a, T', h', k1, b, k, X', e', E', S', hk', hZ', ho', A', F1, F2, V', l1, l2, R', -, sn, st'⟩ := ldcCH X hx hZ hown w wS eT hS hk hEL hmem H ht hz hl (g := mkF m pc Ls st) rfl hd hn hbig hc hl'
  exact Go.to st' (kk a T' h' k1 b k X' e' E' S' hk' hZ' ho' A' F1 F2 V' l1 l2 R' sn)
theorem g_ldcI (X : Stand p l e R s m args below meth c T locs cells slots) (hx : p.tables.exec = Jvm.exec) {a1 : Array Value} (hZ : Z.Warmed39 s.vm) (hown : s.vm.findClass own = some m.cls) (w : (Jvm.Cond.constant own index z).before a0 Z = true) (hd : decode c.code pc = .ok (.ldc index, 2)) (hq : pc + 2 = q) (kk : Go p.tables e below Q (T.setTop (mkF m q Ls (.int z :: st)))) : Go p.tables e below Q (T.setTop (mkF m pc Ls st)) := by
  subst hq; exact Go.to (X.ldcInt hx hown (mvT hZ w) (g := mkF m pc Ls st) rfl hd) kk
theorem g_sp {y : MethodName} {bytes : ByteArray} {maxL : Nat} {W nk ns : Nat} {argsL st0 : List Value} {Qc : Option Value → Heap → List Loc → Prop} (X : Stand p l e R s m args below meth c T locs cells slots) (hx : p.tables.exec = Jvm.exec) (hZ : Z.Warmed39 s.vm) (hown : s.vm.findClass own = some m.cls) (w1 : (Jvm.Cond.methodLink own index y).before a0 Z = true) (w2 : (Jvm.Cond.instanceMethod y).before a0 Z = true) (w3 : (Jvm.Cond.code y bytes maxL none).before a0 Z = true) (hy1 : y.name = "<init>") (hyc : y.cls ≠ "java/lang/invoke/MethodHandle" ∧ y.cls ≠ "java/lang/invoke/VarHandle") (eT : T.heap = h) (hK : BackQ l R p e below s args y 3 W ((.ref a :: argsL).toArray) h nk ns Qc) (hsize : Ls.size = c.maxLocals) (hlen : ∀ sig, parseMethodDescriptor y.desc = some sig → argsL.length = sig.parameters.length) (hst : st0 = argsL.reverse ++ .ref a :: st) (hW : (st.map fun v => v.category).sum ≤ W) (hd : decode c.code pc = .ok (.invokespecial index, 3)) (hq : pc + 3 = q) (hc : cells + nk ≤ R.cells) (hs : slots + ns ≤ R.slots) (kk : ∀ (v : Option Value) (T' : State) (L : List Loc), Stand p l e R s m args below meth c T' (locs ++ L) (cells + nk) (slots + ns) → Qc v T'.heap L → Go p.tables e below Q (T'.setTop (mkF m q Ls (v.toList ++ st)))) : Go p.tables e below Q (T.setTop (mkF m pc Ls st0)) := by
  subst hq
  obtain ⟨v, T', L, X', hQ, st'⟩ := callSp X hx hZ hown hy1 w1 w2 w3 hyc eT hK (g := mkF m pc Ls st0) rfl hsize hlen hst (by show 2 * 0 + _ ≤ _; omega) hd hc hs
  exact Go.run st' (kk v T' L X' hQ)
theorem g_st {y : MethodName} {bytes : ByteArray} {maxL : Nat} {ret : Option FieldType} {W nk ns : Nat} {argsL st0 : List Value} {Qc : Option Value → Heap → List Loc → Prop} (X : Stand p l e R s m args below meth c T locs cells slots) (hx : p.tables.exec = Jvm.exec) (hZ : Z.Warmed39 s.vm) (hown : s.vm.findClass own = some m.cls) (w1 : (Jvm.Cond.methodLink own index y).before a0 Z = true) (w2 : (Jvm.Cond.static y).before a0 Z = true) (w3 : (Jvm.Cond.initialized y.cls).before a0 Z = true) (w4 : (Jvm.Cond.code y bytes maxL ret).before a0 Z = true) (hyc : y.cls ≠ "java/lang/invoke/MethodHandle" ∧ y.cls ≠ "java/lang/invoke/VarHandle") (eT : T.heap = h) (hK : BackQ l R p e below s args y 3 W (argsL.toArray) h nk ns Qc) (hsize : Ls.size = c.maxLocals) (hlen : ∀ sig, parseMethodDescriptor y.desc = some sig → argsL.length = sig.parameters.length) (hst : st0 = argsL.reverse ++ st) (hW : (st.map fun v => v.category).sum ≤ W) (hd : decode c.code pc = .ok (.invokestatic index, 3)) (hq : pc + 3 = q) (hc : cells + nk ≤ R.cells) (hs : slots + ns ≤ R.slots) (kk : ∀ (v : Option Value) (T' : State) (L : List Loc), Stand p l e R s m args below meth c T' (locs ++ L) (cells + nk) (slots + ns) → Qc v T'.heap L → Go p.tables e below Q (T'.setTop (mkF m q Ls (v.toList ++ st)))) : Go p.tables e below Q (T.setTop (mkF m pc Ls st0)) := by
  subst hq
  obtain ⟨v, T', L, X', hQ, st'⟩ := callSt X hx hZ hown w1 w2 w3 w4 hyc eT hK (g := mkF m pc Ls st0) rfl hsize hlen hst (by show 2 * 0 + _ ≤ _; omega) hd hc hs
  exact Go.run st' (kk v T' L X' hQ)
theorem g_vi {y z : MethodName} {W nk ns : Nat} {argsL st0 : List Value} {Qc : Option Value → Heap → List Loc → Prop} (X : Stand p l e R s m args below meth c T locs cells slots) (hx : p.tables.exec = Jvm.exec) (hZ : Z.Warmed39 s.vm) (hown : s.vm.findClass own = some m.cls) (w1 : (Jvm.Cond.methodLink own index y).before a0 Z = true) (w2 : (Jvm.Cond.declares y).before a0 Z = true) (nf : NotFace s y) (w4 : (Jvm.Cond.selects C y z).before a0 Z = true) (w5 : (Jvm.Cond.instanceMethod z).before a0 Z = true) (hyc : y.cls ≠ "java/lang/invoke/MethodHandle" ∧ y.cls ≠ "java/lang/invoke/VarHandle") (E : Exa Z h a C) (eT : T.heap = h) (hK : BackQ l R p e below s args z 3 W ((.ref a :: argsL).toArray) h nk ns Qc) (hsize : Ls.size = c.maxLocals) (hlen : ∀ sig, parseMethodDescriptor y.desc = some sig → argsL.length = sig.parameters.length) (hst : st0 = argsL.reverse ++ .ref a :: st) (hW : (st.map fun v => v.category).sum ≤ W) (hd : decode c.code pc = .ok (.invokevirtual index, 3)) (hq : pc + 3 = q) (hc : cells + nk ≤ R.cells) (hs : slots + ns ≤ R.slots) (kk : ∀ (v : Option Value) (T' : State) (L : List Loc), Stand p l e R s m args below meth c T' (locs ++ L) (cells + nk) (slots + ns) → Qc v T'.heap L → Go p.tables e below Q (T'.setTop (mkF m q Ls (v.toList ++ st)))) : Go p.tables e below Q (T.setTop (mkF m pc Ls st0)) := by
  subst hq
  obtain ⟨v, T', L, X', hQ, st'⟩ := callVi X hx hZ hown w1 w2 nf w4 w5 hyc eT E hK (g := mkF m pc Ls st0) rfl hsize hlen hst (by show 2 * 0 + _ ≤ _; omega) hd hc hs
  exact Go.run st' (kk v T' L X' hQ)
theorem g_vu {y z : MethodName} {W nk ns : Nat} {argsL st0 : List Value} {Qc : Option Value → Heap → List Loc → Prop} (X : Stand p l e R s m args below meth c T locs cells slots) (hx : p.tables.exec = Jvm.exec) (hZ : Z.Warmed39 s.vm) (hown : s.vm.findClass own = some m.cls) {owner : String} (w1 : (Jvm.Cond.methodLink own index y).before a0 Z = true) (w2 : (Jvm.Cond.sameMethod y.cls owner y.name y.desc).before a0 Z = true) (w3 : (Jvm.Cond.declares ⟨owner, y.name, y.desc⟩).before a0 Z = true) (hyc : owner ≠ "java/lang/invoke/MethodHandle" ∧ owner ≠ "java/lang/invoke/VarHandle") (w4 : (Jvm.Cond.selects C y z).before a0 Z = true) (w5 : (Jvm.Cond.instanceMethod z).before a0 Z = true) (E : Exa Z h a C) (eT : T.heap = h) (hK : BackQ l R p e below s args z 3 W ((.ref a :: argsL).toArray) h nk ns Qc) (hsize : Ls.size = c.maxLocals) (hlen : ∀ sig, parseMethodDescriptor y.desc = some sig → argsL.length = sig.parameters.length) (hst : st0 = argsL.reverse ++ .ref a :: st) (hW : (st.map fun v => v.category).sum ≤ W) (hd : decode c.code pc = .ok (.invokevirtual index, 3)) (hq : pc + 3 = q) (hc : cells + nk ≤ R.cells) (hs : slots + ns ≤ R.slots) (kk : ∀ (v : Option Value) (T' : State) (L : List Loc), Stand p l e R s m args below meth c T' (locs ++ L) (cells + nk) (slots + ns) → Qc v T'.heap L → Go p.tables e below Q (T'.setTop (mkF m q Ls (v.toList ++ st)))) : Go p.tables e below Q (T.setTop (mkF m pc Ls st0)) := by
  subst hq
  obtain ⟨v, T', L, X', hQ, st'⟩ := callVu X hx hZ hown w1 w2 w3 hyc w4 w5 eT E hK (g := mkF m pc Ls st0) rfl hsize hlen hst (by show 2 * 0 + _ ≤ _; omega) hd hc hs
  exact Go.run st' (kk v T' L X' hQ)
theorem g_if {y z : MethodName} {W nk ns : Nat} {argsL st0 : List Value} {Qc : Option Value → Heap → List Loc → Prop} {count : Nat} (X : Stand p l e R s m args below meth c T locs cells slots) (hx : p.tables.exec = Jvm.exec) (hZ : Z.Warmed39 s.vm) (hown : s.vm.findClass own = some m.cls) (w1 : (Jvm.Cond.methodLink own index y).before a0 Z = true) (w2 : (Jvm.Cond.declares y).before a0 Z = true) (w3 : (Jvm.Cond.interfaceMethod y.cls y.cls y.name y.desc).before a0 Z = true) (h3 : ((Jvm.Cond.interfaceMethod y.cls y.cls y.name y.desc).onTables && (Jvm.Cond.interfaceMethod y.cls y.cls y.name y.desc).keepsFace) = true) (w4 : (Jvm.Cond.selects C y z).before a0 Z = true) (w5 : (Jvm.Cond.instanceMethod z).before a0 Z = true) (w6 : (Jvm.Cond.publicMethod z).before a0 Z = true) (w7 : (Jvm.Cond.unhidden C y.name y.desc).before a0 Z = true) (w8 : (Jvm.Cond.castable C y.cls).before a0 Z = true) (hyc : y.cls ≠ "java/lang/invoke/MethodHandle" ∧ y.cls ≠ "java/lang/invoke/VarHandle") (E : Exa Z h a C) (eT : T.heap = h) (hK : BackQ l R p e below s args z 5 W ((.ref a :: argsL).toArray) h nk ns Qc) (hsize : Ls.size = c.maxLocals) (hlen : ∀ sig, parseMethodDescriptor y.desc = some sig → argsL.length = sig.parameters.length) (hst : st0 = argsL.reverse ++ .ref a :: st) (hW : (st.map fun v => v.category).sum ≤ W) (hd : decode c.code pc = .ok (.invokeinterface index count, 5)) (hq : pc + 5 = q) (hc : cells + nk ≤ R.cells) (hs : slots + ns ≤ R.slots) (kk : ∀ (v : Option Value) (T' : State) (L : List Loc), Stand p l e R s m args below meth c T' (locs ++ L) (cells + nk) (slots + ns) → Qc v T'.heap L → Go p.tables e below Q (T'.setTop (mkF m q Ls (v.toList ++ st)))) : Go p.tables e below Q (T.setTop (mkF m pc Ls st0)) := by
  subst hq
  obtain ⟨v, T', L, X', hQ, st'⟩ := callIf X hx hZ hown w1 w2 w3 h3 w4 w5 w6 w7 w8 hyc eT E hK (g := mkF m pc Ls st0) rfl hsize hlen hst (by show 2 * 0 + _ ≤ _; omega) hd hc hs
  exact Go.run st' (kk v T' L X' hQ)
theorem g_spS {vm0 : Vm} {y : MethodName} {bytes : ByteArray} {maxL : Nat} {W nk ns : Nat} {argsL st0 : List Value} {Qc : Option Value → Heap → List Loc → Prop} (X : Stand p l e R (s.setVm vm0) m args below meth c T locs cells slots) (hx : p.tables.exec = Jvm.exec) (hZ : Z.Warmed39 vm0) (hown : vm0.findClass own = some m.cls) {n0 : Nat} (hS : s.Since vm0 n0) (hk : n0 ≤ h.size) (w1 : (Jvm.Cond.methodLink own index y).before a0 Z = true) (w2 : (Jvm.Cond.instanceMethod y).before a0 Z = true) (w3 : (Jvm.Cond.code y bytes maxL none).before a0 Z = true) (hy1 : y.name = "<init>") (hyc : y.cls ≠ "java/lang/invoke/MethodHandle" ∧ y.cls ≠ "java/lang/invoke/VarHandle") (eT : T.heap = h) (hK : BackSQ l R p e below s vm0 args y 3 W ((.ref a :: argsL).toArray) h nk ns Z EL Qc) (hsize : Ls.size = c.maxLocals) (hlen : ∀ sig, parseMethodDescriptor y.desc = some sig → argsL.length = sig.parameters.length) (hst : st0 = argsL.reverse ++ .ref a :: st) (hW : (st.map fun v => v.category).sum ≤ W) (hd : decode c.code pc = .ok (.invokespecial index, 3)) (hq : pc + 3 = q) (hc : cells + nk ≤ R.cells) (hs : slots + ns ≤ R.slots) (kk : ∀ (v : Option Value) (T' : State) (L : List Loc), AfterS p l e R s m args below meth c Z EL own vm0 h T' (locs ++ L) (cells + nk) (slots + ns) → Qc v T'.heap L → Go p.tables e below Q (T'.setTop (mkF m q Ls (v.toList ++ st)))) : Go p.tables e below Q (T.setTop (mkF m pc Ls st0)) := by
  subst hq
  obtain ⟨v, T', L, X', hQ, st'⟩ := callSpS X hx hZ hown hS hk hy1 w1 w2 w3 hyc eT hK (g := mkF m pc Ls st0) rfl hsize hlen hst (by show 2 * 0 + _ ≤ _; omega) hd hc hs
  exact Go.run st' (kk v T' L X' hQ)
theorem g_stS {vm0 : Vm} {y : MethodName} {bytes : ByteArray} {maxL : Nat} {ret : Option FieldType} {W nk ns : Nat} {argsL st0 : List Value} {Qc : Option Value → Heap → List Loc → Prop} (X : Stand p l e R (s.setVm vm0) m args below meth c T locs cells slots) (hx : p.tables.exec = Jvm.exec) (hZ : Z.Warmed39 vm0) (hown : vm0.findClass own = some m.cls) {n0 : Nat} (hS : s.Since vm0 n0) (hk : n0 ≤ h.size) (w1 : (Jvm.Cond.methodLink own index y).before a0 Z = true) (w2 : (Jvm.Cond.static y).before a0 Z = true) (w3 : (Jvm.Cond.initialized y.cls).before a0 Z = true) (w4 : (Jvm.Cond.code y bytes maxL ret).before a0 Z = true) (hyc : y.cls ≠ "java/lang/invoke/MethodHandle" ∧ y.cls ≠ "java/lang/invoke/VarHandle") (eT : T.heap = h) (hK : BackSQ l R p e below s vm0 args y 3 W (argsL.toArray) h nk ns Z EL Qc) (hsize : Ls.size = c.maxLocals) (hlen : ∀ sig, parseMethodDescriptor y.desc = some sig → argsL.length = sig.parameters.length) (hst : st0 = argsL.reverse ++ st) (hW : (st.map fun v => v.category).sum ≤ W) (hd : decode c.code pc = .ok (.invokestatic index, 3)) (hq : pc + 3 = q) (hc : cells + nk ≤ R.cells) (hs : slots + ns ≤ R.slots) (kk : ∀ (v : Option Value) (T' : State) (L : List Loc), AfterS p l e R s m args below meth c Z EL own vm0 h T' (locs ++ L) (cells + nk) (slots + ns) → Qc v T'.heap L → Go p.tables e below Q (T'.setTop (mkF m q Ls (v.toList ++ st)))) : Go p.tables e below Q (T.setTop (mkF m pc Ls st0)) := by
  subst hq
  obtain ⟨v, T', L, X', hQ, st'⟩ := callStS X hx hZ hown hS hk w1 w2 w3 w4 hyc eT hK (g := mkF m pc Ls st0) rfl hsize hlen hst (by show 2 * 0 + _ ≤ _; omega) hd hc hs
  exact Go.run st' (kk v T' L X' hQ)
theorem g_viS {vm0 : Vm} {y z : MethodName} {W nk ns : Nat} {argsL st0 : List Value} {Qc : Option Value → Heap → List Loc → Prop} (X : Stand p l e R (s.setVm vm0) m args below meth c T locs cells slots) (hx : p.tables.exec = Jvm.exec) (hZ : Z.Warmed39 vm0) (hown : vm0.findClass own = some m.cls) {n0 : Nat} (hS : s.Since vm0 n0) (hk : n0 ≤ h.size) (w1 : (Jvm.Cond.methodLink own index y).before a0 Z = true) (w2 : (Jvm.Cond.declares y).before a0 Z = true) (nf : NotFace (s.setVm vm0) y) (w4 : (Jvm.Cond.selects C y z).before a0 Z = true) (w5 : (Jvm.Cond.instanceMethod z).before a0 Z = true) (hyc : y.cls ≠ "java/lang/invoke/MethodHandle" ∧ y.cls ≠ "java/lang/invoke/VarHandle") (E : Exa Z h a C) (eT : T.heap = h) (hK : BackSQ l R p e below s vm0 args z 3 W ((.ref a :: argsL).toArray) h nk ns Z EL Qc) (hsize : Ls.size = c.maxLocals) (hlen : ∀ sig, parseMethodDescriptor y.desc = some sig → argsL.length = sig.parameters.length) (hst : st0 = argsL.reverse ++ .ref a :: st) (hW : (st.map fun v => v.category).sum ≤ W) (hd : decode c.code pc = .ok (.invokevirtual index, 3)) (hq : pc + 3 = q) (hc : cells + nk ≤ R.cells) (hs : slots + ns ≤ R.slots) (kk : ∀ (v : Option Value) (T' : State) (L : List Loc), AfterS p l e R s m args below meth c Z EL own vm0 h T' (locs ++ L) (cells + nk) (slots + ns) → Qc v T'.heap L → Go p.tables e below Q (T'.setTop (mkF m q Ls (v.toList ++ st)))) : Go p.tables e below Q (T.setTop (mkF m pc Ls st0)) := by
  subst hq
  obtain ⟨v, T', L, X', hQ, st'⟩ := callViS X hx hZ hown hS hk w1 w2 nf w4 w5 hyc eT E hK (g := mkF m pc Ls st0) rfl hsize hlen hst (by show 2 * 0 + _ ≤ _; omega) hd hc hs
  exact Go.run st' (kk v T' L X' hQ)
theorem g_newR (X : Stand p l e R s m args below meth c T locs cells slots) (hx : p.tables.exec = Jvm.exec) (hZ : Z.Warmed39 s.vm) (hown : s.vm.findClass own = some m.cls) (w1 : (Jvm.Cond.classLink own index C).before a0 Z = true) (w2 : (Jvm.Cond.arrayOver (.object C)).before a0 Z = true) {ad : String} (had : "[" ++ (FieldType.object C).toString = ad) (hn : ¬ z < 0) {n : Nat} (hk : z.toNatClampNeg = n) (hb : n * 8 ≤ 536870912) (hc : cells + 1 ≤ R.cells) (hl : slots + n ≤ R.slots) (eT : T.heap = h) (hd : decode c.code pc = .ok (.anewarray index, 3)) (hq : pc + 3 = q) (kk : ∀ (T' : State) (h' : Heap) (kc : ClassId) (b : Addr), b = h.size → Stand p l e R s m args below meth c T' locs (cells + 1) (slots + n) → T'.heap = h' → Ext h h' → Arv Z h' b kc (.object C) z (List.replicate n .null) .null → Exa Z h' b ad → Ovr Z kc C → Go p.tables e below Q (T'.setTop (mkF m q Ls (.ref b :: st)))) : Go p.tables e below Q (T.setTop (mkF m pc Ls (.int z :: st))) := by
  subst hq
  obtain ⟨T', h', kc, X', e', E', A', Ea, O', st'⟩ := newRE X hx hZ hown w1 w2 eT (g := mkF m pc Ls (.int z :: st)) rfl hd rfl hn (cap := n) (Nat.le_of_eq hk) hb hc hl had
  have V0 : Arv Z h' h.size kc (.object C) z [] Value.null := Arv.new A' hn
  exact Go.to st' (kk T' h' kc _ rfl X' e' E' (V0.pad (fun i => by have := pad_rep [] Value.null n i; simpa using this)) Ea O')
theorem g_gcls (X : Stand p l e R s m args below meth c T locs cells slots) (hx : p.tables.exec = Jvm.exec) (hZ : Z.Warmed39 s.vm) (hown : s.vm.findClass own = some m.cls) (w1 : (Jvm.Cond.methodLink own index ⟨"java/lang/Object", "getClass", "()Ljava/lang/Class;"⟩).before a0 Z = true) (w2 : (Jvm.Cond.declares ⟨"java/lang/Object", "getClass", "()Ljava/lang/Class;"⟩).before a0 Z = true) (w3 : (Jvm.Cond.noSuperclass "java/lang/Object").before a0 Z = true) (w4 : (Jvm.Cond.selects C ⟨"java/lang/Object", "getClass", "()Ljava/lang/Class;"⟩ ⟨"java/lang/Object", "getClass", "()Ljava/lang/Class;"⟩).before a0 Z = true) (w5 : (Jvm.Cond.instanceMethod ⟨"java/lang/Object", "getClass", "()Ljava/lang/Class;"⟩).before a0 Z = true) (w6 : (Jvm.Cond.native ⟨"java/lang/Object", "getClass", "()Ljava/lang/Class;"⟩).before a0 Z = true) (E : Exa Z h a C) {mr : Addr} (M : Mir Z C mr) (hsize : Ls.size = c.maxLocals) (hf : 1 ≤ R.frames) {W : Nat} (hW : (st.map fun v => v.category).sum ≤ W) (hl : W + (nativeFrameWords "java/lang/Object" "getClass" 1 + 11) ≤ R.locals) (eT : T.heap = h) (hd : decode c.code pc = .ok (.invokevirtual index, 3)) (hq : pc + 3 = q) (kk : ∀ (T' : State), Stand p l e R s m args below meth c T' locs cells slots → T'.heap = h → Go p.tables e below Q (T'.setTop (mkF m q Ls (.ref mr :: st)))) : Go p.tables e below Q (T.setTop (mkF m pc Ls (.ref a :: st))) := by
  subst hq
  obtain ⟨T', X', e', st'⟩ := gcls X hx hZ hown w1 w2 w3 w4 w5 w6 eT E M (g := mkF m pc Ls (.ref a :: st)) rfl hsize rfl hd hf (W := W) (by show 2 * 0 + _ ≤ _; omega) hl
  exact Go.to st' (kk T' X' e')
theorem g_ldcM (X : Stand p l e R s m args below meth c T locs cells slots) (hx : p.tables.exec = Jvm.exec) (hZ : Z.Warmed39 s.vm) (hown : s.vm.findClass own = some m.cls) (w1 : (Jvm.Cond.classLink own index C).before a0 Z = true) {mr : Addr} (M : Mir Z C mr) (eT : T.heap = h) (hd : decode c.code pc = .ok (.ldc index, 2)) (hq : pc + 2 = q) (kk : ∀ (T' : State), Stand p l e R s m args below meth c T' locs cells slots → T'.heap = h → Go p.tables e below Q (T'.setTop (mkF m q Ls (.ref mr :: st)))) : Go p.tables e below Q (T.setTop (mkF m pc Ls st)) := by
  subst hq
  have hev : (Term.mirror C).eval args s none [] s = some (.ref mr) := by
    obtain ⟨cc, kc, m1, m2, m3, -⟩ := M
    obtain ⟨k', q1, ek⟩ := hZ.alike.2.2 _ _ m2
    have q2 : s.vm.findClass C = some cc := by rw [hZ.alike.findClass]; exact m1
    have q3 : k'.mirror = some mr := by rw [ek]; exact m3
    simp [Term.eval, q2, q1, q3]
  obtain ⟨vm', X', st'⟩ := X.ldcMirror hx hown (mvT hZ w1) hev (g := mkF m pc Ls st) rfl hd
  exact Go.to st' (kk _ X' eT)
theorem g_cp (X : Stand p l e R s m args below meth c T locs cells slots) (hx : p.tables.exec = Jvm.exec) (hZ : Z.Warmed39 s.vm) (hown : s.vm.findClass own = some m.cls) (w1 : (Jvm.Cond.methodLink own index Jvm.Stand.acN).before a0 Z = true) (w2 : (Jvm.Cond.native Jvm.Stand.acN).before a0 Z = true) (w3 : (Jvm.Cond.static Jvm.Stand.acN).before a0 Z = true) (w4 : (Jvm.Cond.initialized "java/lang/System").before a0 Z = true) {b : Addr} {k' : ClassId} {ty' : FieldType} {z' sp dp nn : Int32} {vd us : List Value} {d2 : Value} (A : Arv Z h a kc ty z vs d) (B : Arv Z h b k' ty' z' vd d2) (hty : (ty = ty' ∧ refKind ty = false) ∨ (refKind ty = true ∧ refKind ty' = true ∧ StoL Z h b us)) (h1 : ¬ sp < 0) (h2 : ¬ dp < 0) (h3 : ¬ nn < 0) (h4 : sp.toNatClampNeg + nn.toNatClampNeg ≤ z.toNatClampNeg) (h5 : dp.toNatClampNeg + nn.toNatClampNeg ≤ z'.toNatClampNeg) (hus : us = (List.range nn.toNatClampNeg).map fun i => vs.getD (sp.toNatClampNeg + i) d) (hl : dp.toNatClampNeg + nn.toNatClampNeg ≤ vd.length) {n0 : Nat} (N : Fr n0 locs) (ge : n0 ≤ b) (hsize : Ls.size = c.maxLocals) (hf : 1 ≤ R.frames) {W : Nat} (hW : (st.map fun v => v.category).sum ≤ W) (hlo : W + (nativeFrameWords "java/lang/System" "arraycopy" 5 + 11) ≤ R.locals) (eT : T.heap = h) (hd : decode c.code pc = .ok (.invokestatic index, 3)) (hq : pc + 3 = q) (kk : ∀ (T' : State) (h' : Heap) (L : List Loc), Stand p l e R s m args below meth c T' L cells slots → T'.heap = h' → Fr n0 L → Keep h h' [b] → Arv Z h' b k' ty' z' (vd.take dp.toNatClampNeg ++ us ++ vd.drop (dp.toNatClampNeg + nn.toNatClampNeg)) d2 → Go p.tables e below Q (T'.setTop (mkF m q Ls st))) : Go p.tables e below Q (T.setTop (mkF m pc Ls (.int nn :: .int dp :: .ref b :: .int sp :: .ref a :: st))) := by
  subst hq
  obtain ⟨T', h', L, X', e', N', K', V', st'⟩ := cpA X hx hZ hown w1 w2 w3 w4 eT A B hty h1 h2 h3 h4 h5 hus hl N ge (g := mkF m pc Ls (.int nn :: .int dp :: .ref b :: .int sp :: .ref a :: st)) rfl hsize rfl hd hf (W := W) (by show 2 * 0 + _ ≤ _; omega) hlo
  exact Go.to st' (kk T' h' L X' e' N' K' V')
theorem g_tsw (X : Stand p l e R s m args below meth c T locs cells slots) (hx : p.tables.exec = Jvm.exec) {dflt low high : Int} {offs : Array Int} {len : Nat} {j : Int} (hd : decode c.code pc = .ok (.tableswitch dflt low high offs, len)) (hin : ¬ (x.toInt < low ∨ x.toInt > high)) (hoff : offs[(x.toInt - low).toNat]? = some j) (ho : 0 ≤ (pc : Int) + j) (hp : ((pc : Int) + j).toNat = q) (kk : Go p.tables e below Q (T.setTop (mkF m q Ls st))) : Go p.tables e below Q (T.setTop (mkF m pc Ls (.int x :: st))) :=
  Go.st (S' := T.setTop (mkF m q Ls st)) (fun {t} hr => XS.tswIn (g := mkF m pc Ls (.int x :: st)) (pc0 := pc) (pc' := q) X.here hx rfl rfl hd rfl hin hoff ho hp hr) kk
theorem g_pv {y : MethodName} {bytes : ByteArray} {maxL : Nat} {ret : Option FieldType} {W nk ns : Nat} {argsL st0 : List Value} {Qc : Option Value → Heap → List Loc → Prop} (X : Stand p l e R s m args below meth c T locs cells slots) (hx : p.tables.exec = Jvm.exec) (hZ : Z.Warmed39 s.vm) (hown : s.vm.findClass own = some m.cls) (w1 : (Jvm.Cond.methodLink own index y).before a0 Z = true) (w2 : (Jvm.Cond.instanceMethod y).before a0 Z = true) (w3 : (Jvm.Cond.selects y.cls y y).before a0 Z = true) (w4 : (Jvm.Cond.privateMethod y).before a0 Z = true) (w5 : (Jvm.Cond.code y bytes maxL ret).before a0 Z = true) (hyc : y.cls ≠ "java/lang/invoke/MethodHandle" ∧ y.cls ≠ "java/lang/invoke/VarHandle") (E : Exa Z h a C) (eT : T.heap = h) (hK : BackQ l R p e below s args y 3 W (.ref a :: argsL).toArray h nk ns Qc) (hsize : Ls.size = c.maxLocals) (hlen : ∀ sig, parseMethodDescriptor y.desc = some sig → argsL.length = sig.parameters.length) (hst : st0 = argsL.reverse ++ .ref a :: st) (hW : (st.map fun v => v.category).sum ≤ W) (hd : decode c.code pc = .ok (.invokevirtual index, 3)) (hq : pc + 3 = q) (hc : cells + nk ≤ R.cells) (hs : slots + ns ≤ R.slots) (kk : ∀ (v : Option Value) (T' : State) (L : List Loc), Stand p l e R s m args below meth c T' (locs ++ L) (cells + nk) (slots + ns) → Qc v T'.heap L → Go p.tables e below Q (T'.setTop (mkF m q Ls (v.toList ++ st)))) : Go p.tables e below Q (T.setTop (mkF m pc Ls st0)) := by
  subst hq
  obtain ⟨cq, q1, q2⟩ := E.cell
  obtain ⟨v, vm1, ⟨T', L', k', n'⟩, -, X', ⟨L, hQ, rfl, rfl, rfl⟩, st'⟩ := X.privateBack hx hown (mvT hZ w1) (mvT hZ w2) (mvT hZ w3) (Cond.privateMethod_at (mvP hZ w4 (args := #[]))) (mvT hZ w5) hyc hK (g := mkF m pc Ls st0) rfl hsize (Steps.refl _) (a := a) (by rw [eT]; exact q1) q2 hlen hst (by show 2 * 0 + _ ≤ _; omega) hd (fun _ _ => ⟨rfl, eT, hc, hs⟩)
  exact Go.run st' (kk v T' L X' hQ)
end Steps1
end Jvm.OwnKit

namespace Jvm.Pilot.@@N@@
open Jvm Jvm.ClassFile Sem Op Lib Jvm.Free Jvm.Stand Jvm.LawKit Jvm.RoadKit Jvm.OwnKit Bundle Jvm.Pilot.@@N@@.Jvm.D
abbrev HW (a0 : Array Value) (Z : State) : Prop := ∀ d ∈ tables_1, d.before a0 Z = true
abbrev tSC (Z : State) (zC : Int32) : Prop := Sta Z Z.heap "java/lang/String" "COMPACT_STRINGS" "Z" (.int zC)
abbrev tSE (Z : State) (aE : Addr) : Prop := Sta Z Z.heap "java/util/ImmutableCollections" "EMPTY_LIST" "Ljava/util/ImmutableCollections$ListN;" (.ref aE)
abbrev tSD (Z : State) (aD : Addr) : Prop := Sta Z Z.heap "java/util/ArrayList" "DEFAULTCAPACITY_EMPTY_ELEMENTDATA" "[Ljava/lang/Object;" (.ref aD)
abbrev tSM (Z : State) (aM : Addr) : Prop := Sta Z Z.heap "java/util/ImmutableCollections" "EMPTY" "Ljava/lang/Object;" (.ref aM)
abbrev tMO (Z : State) (mO : Addr) : Prop := Mir Z "[Ljava/lang/Object;" mO
set_option maxRecDepth 65536
set_option maxHeartbeats 40000000
def chr (x : Int32) : Int32 := (x &&& 255).toUInt32.toUInt16.toUInt32.toInt32
theorem chr_eq (x : Int32) : chr x = x &&& 255 := i2c_mask x
theorem chr_rng (x : Int32) : ¬ chr x < 0 ∧ ¬ (255 : Int32) < chr x := by
  rw [chr_eq]
  have h := c_mask x 255 8 (by decide) (by decide)
  simp only [Int32.lt_iff_toInt_lt]
  have h0 : (0 : Int32).toInt = 0 := by decide
  have h1 : (255 : Int32).toInt = 255 := by decide
  rw [h, h0, h1]
  have : (2 ^ 8 : Nat) = 256 := by decide
  omega
theorem chr_nar (x : Int32) : nar .char (chr x) = chr x := by simp only [nar, chr, UInt32.toUInt32_toInt32, UInt16.toUInt16_toUInt32]
theorem al0 {P : Int32 → Prop} : ∀ c ∈ ([] : List Int32), P c := fun _ q => nomatch q
theorem alS {P : Int32 → Prop} {y : Int32} {L : List Int32} (q : P y) (r : ∀ x ∈ L, P x) : ∀ x ∈ y :: L, P x := fun x z => (List.mem_cons.mp z).elim (fun u => u ▸ q) (r x)
theorem shr_zero (x : Int32) : x >>> ((0 : Int32) &&& 31) = x := by
  rw [show ((0 : Int32) &&& 31) = 0 from by decide]
  exact Int32.toInt_inj.mp (by rw [show x >>> (0 : Int32) = x >>> ((0 : Int32) &&& 31) from by rw [show ((0 : Int32) &&& 31) = 0 from by decide], c_ishr x 0 0 (by decide)]; simp)
theorem own_wStr {a0 : Array Value} {Z : State} (hw : HW a0 Z) : ∀ d ∈ StrChars.Road.words, d.before a0 Z = true := fun d hd => hw d ((by decide +kernel : ∀ d ∈ StrChars.Road.words, d ∈ tables_1) d hd)
theorem d_jdk_30m1_0 : decode jdk_30_method_1_code 0 = .ok (.aload_n 0, 1) := by decide +kernel
theorem d_jdk_30m1_1 : decode jdk_30_method_1_code 1 = .ok (.invokespecial 1, 3) := by decide +kernel
theorem wd41 {a0 : Array Value} {Z : State} (hw : HW a0 Z) : ((Jvm.Cond.methodLink "java/lang/Record" (1 : Nat) ({ cls := "java/lang/Object", name := "<init>", desc := "()V" } : Jvm.MethodName)) : Jvm.Cond).before a0 Z = true := hw _ (List.mem_of_getElem? (i := 41) rfl)
theorem wd12 {a0 : Array Value} {Z : State} (hw : HW a0 Z) : ((Jvm.Cond.instanceMethod ({ cls := "java/lang/Object", name := "<init>", desc := "()V" } : Jvm.MethodName)) : Jvm.Cond).before a0 Z = true := hw _ (List.mem_of_getElem? (i := 12) rfl)
theorem wd13 {a0 : Array Value} {Z : State} (hw : HW a0 Z) : ((Jvm.Cond.code ({ cls := "java/lang/Object", name := "<init>", desc := "()V" } : Jvm.MethodName) object_method_1_code (1 : Nat) (Option.none : Option Jvm.ClassFile.FieldType)) : Jvm.Cond).before a0 Z = true := hw _ (List.mem_of_getElem? (i := 13) rfl)
theorem d_jdk_30m1_4 : decode jdk_30_method_1_code 4 = .ok (.return_, 1) := by decide +kernel
def Q_recinit (Z : State) (zC : Int32) (aE : Addr) (aD : Addr) (aM : Addr) (mO : Addr) (a1 : Addr) (h0 : Heap) (v : Option Value) (h : Heap) (L : List Loc) : Prop := v = none ∧ Fr Z.heap.size L ∧ h = h0
theorem pn0 : plainName "java/lang/Record" = true := by first | (simp [plainName, overriddenIn]; done) | decide +kernel
theorem rm_recinit (l : Launch) (Z : State) (a0 : Array Value) (hw : HW a0 Z) (zC : Int32) (SC : tSC Z zC) (PC : ¬ zC = (0 : Int32)) (aE : Addr) (SE : tSE Z aE) (aD : Addr) (SD : tSD Z aD) (aM : Addr) (SM : tSM Z aM) (mO : Addr) (MO : tMO Z mO) (a1 : Addr) (h0 : Heap) (O0 : Old Z Z.heap.size h0)  :
    Con l Z (⟨"java/lang/Record", "<init>", "()V"⟩ : MethodName) jdk_30_method_1_code 1 none ({ frames := 1, cells := 0, slots := 0, locals := 12 } : Room) #[(.ref a1)] h0 (Q_recinit Z zC aE aD aM mO a1 h0) := by
  refine Con.intro (plainFor_of_name pn0) ?_
  intro p e s m below meth c T0 X0 hx hby hml hown0 hnm hret hlk hZ0 e0
  have N0 := Fr.nil Z.heap.size
  refine castGo (g' := mkF m 0 #[.val (.ref a1)] []) (by first | rfl | (simp [entryFrame, mkF, argsToLocals, Value.category]; done)) ?_
  show Go _ _ _ _ (T0.setTop (mkF m 0 #[.val (.ref a1)] []))
  refine aL X0 hx (hb hby d_jdk_30m1_0) (q := 1) rfl rfl rfl ?_
  refine g_init0 X0 hx hZ0 hown0 (wd41 hw) (wd12 hw) (wd13 hw) (by rw [hml]; rfl) (by decide) (W := 0) (Nat.le_of_eq rfl) (by decide) e0 (hb hby d_jdk_30m1_1) (q := 4) rfl ?_
  intro T1 X1 e1
  refine endP X1 hlk (fun _ => rfl) (lastV X1 hx hret (hb hby d_jdk_30m1_4)) ?_ (by decide) (by decide)
  rw [e1]
  exact ⟨rfl, N0, rfl⟩
theorem d_jdk_22m1_0 : decode jdk_22_method_1_code 0 = .ok (.aload_n 0, 1) := by decide +kernel
theorem d_jdk_22m1_1 : decode jdk_22_method_1_code 1 = .ok (.invokespecial 1, 3) := by decide +kernel
theorem wd66 {a0 : Array Value} {Z : State} (hw : HW a0 Z) : ((Jvm.Cond.methodLink "java/util/AbstractCollection" (1 : Nat) ({ cls := "java/lang/Object", name := "<init>", desc := "()V" } : Jvm.MethodName)) : Jvm.Cond).before a0 Z = true := hw _ (List.mem_of_getElem? (i := 66) rfl)
theorem d_jdk_22m1_4 : decode jdk_22_method_1_code 4 = .ok (.return_, 1) := by decide +kernel
def Q_abcinit (Z : State) (zC : Int32) (aE : Addr) (aD : Addr) (aM : Addr) (mO : Addr) (a1 : Addr) (h0 : Heap) (v : Option Value) (h : Heap) (L : List Loc) : Prop := v = none ∧ Fr Z.heap.size L ∧ h = h0
theorem pn1 : plainName "java/util/AbstractCollection" = true := by first | (simp [plainName, overriddenIn]; done) | decide +kernel
theorem rm_abcinit (l : Launch) (Z : State) (a0 : Array Value) (hw : HW a0 Z) (zC : Int32) (SC : tSC Z zC) (PC : ¬ zC = (0 : Int32)) (aE : Addr) (SE : tSE Z aE) (aD : Addr) (SD : tSD Z aD) (aM : Addr) (SM : tSM Z aM) (mO : Addr) (MO : tMO Z mO) (a1 : Addr) (h0 : Heap) (O0 : Old Z Z.heap.size h0)  :
    Con l Z (⟨"java/util/AbstractCollection", "<init>", "()V"⟩ : MethodName) jdk_22_method_1_code 1 none ({ frames := 1, cells := 0, slots := 0, locals := 12 } : Room) #[(.ref a1)] h0 (Q_abcinit Z zC aE aD aM mO a1 h0) := by
  refine Con.intro (plainFor_of_name pn1) ?_
  intro p e s m below meth c T0 X0 hx hby hml hown0 hnm hret hlk hZ0 e0
  have N0 := Fr.nil Z.heap.size
  refine castGo (g' := mkF m 0 #[.val (.ref a1)] []) (by first | rfl | (simp [entryFrame, mkF, argsToLocals, Value.category]; done)) ?_
  show Go _ _ _ _ (T0.setTop (mkF m 0 #[.val (.ref a1)] []))
  refine aL X0 hx (hb hby d_jdk_22m1_0) (q := 1) rfl rfl rfl ?_
  refine g_init0 X0 hx hZ0 hown0 (wd66 hw) (wd12 hw) (wd13 hw) (by rw [hml]; rfl) (by decide) (W := 0) (Nat.le_of_eq rfl) (by decide) e0 (hb hby d_jdk_22m1_1) (q := 4) rfl ?_
  intro T2 X2 e2
  refine endP X2 hlk (fun _ => rfl) (lastV X2 hx hret (hb hby d_jdk_22m1_4)) ?_ (by decide) (by decide)
  rw [e2]
  exact ⟨rfl, N0, rfl⟩
theorem d_jdk_39m1_0 : decode jdk_39_method_1_code 0 = .ok (.aload_n 0, 1) := by decide +kernel
theorem d_jdk_39m1_1 : decode jdk_39_method_1_code 1 = .ok (.invokespecial 1, 3) := by decide +kernel
theorem wd65 {a0 : Array Value} {Z : State} (hw : HW a0 Z) : ((Jvm.Cond.code ({ cls := "java/util/AbstractCollection", name := "<init>", desc := "()V" } : Jvm.MethodName) jdk_22_method_1_code (1 : Nat) (Option.none : Option Jvm.ClassFile.FieldType)) : Jvm.Cond).before a0 Z = true := hw _ (List.mem_of_getElem? (i := 65) rfl)
theorem wd64 {a0 : Array Value} {Z : State} (hw : HW a0 Z) : ((Jvm.Cond.initialized "java/util/AbstractCollection") : Jvm.Cond).before a0 Z = true := hw _ (List.mem_of_getElem? (i := 64) rfl)
theorem pd0 : parseMethodDescriptor "()V" = some ⟨[], none⟩ := by decide +kernel
theorem wd60 {a0 : Array Value} {Z : State} (hw : HW a0 Z) : ((Jvm.Cond.methodLink "java/util/AbstractList" (1 : Nat) ({ cls := "java/util/AbstractCollection", name := "<init>", desc := "()V" } : Jvm.MethodName)) : Jvm.Cond).before a0 Z = true := hw _ (List.mem_of_getElem? (i := 60) rfl)
theorem wd61 {a0 : Array Value} {Z : State} (hw : HW a0 Z) : ((Jvm.Cond.instanceMethod ({ cls := "java/util/AbstractCollection", name := "<init>", desc := "()V" } : Jvm.MethodName)) : Jvm.Cond).before a0 Z = true := hw _ (List.mem_of_getElem? (i := 61) rfl)
theorem d_jdk_39m1_4 : decode jdk_39_method_1_code 4 = .ok (.aload_n 0, 1) := by decide +kernel
theorem d_jdk_39m1_5 : decode jdk_39_method_1_code 5 = .ok (.iconst 0, 1) := by decide +kernel
theorem d_jdk_39m1_6 : decode jdk_39_method_1_code 6 = .ok (.putfield 7, 3) := by decide +kernel
theorem wd67 {a0 : Array Value} {Z : State} (hw : HW a0 Z) : ((Jvm.Cond.fieldLink "java/util/AbstractList" (7 : Nat) "java/util/AbstractList" "modCount" "I") : Jvm.Cond).before a0 Z = true := hw _ (List.mem_of_getElem? (i := 67) rfl)
theorem wd68 {a0 : Array Value} {Z : State} (hw : HW a0 Z) : ((Jvm.Cond.lays "java/util/ArrayList" "java/util/AbstractList" "modCount" "I") : Jvm.Cond).before a0 Z = true := hw _ (List.mem_of_getElem? (i := 68) rfl)
theorem wd49 {a0 : Array Value} {Z : State} (hw : HW a0 Z) : ((Jvm.Cond.instantiable "java/util/ArrayList" (3 : Nat)) : Jvm.Cond).before a0 Z = true := hw _ (List.mem_of_getElem? (i := 49) rfl)
theorem d_jdk_39m1_9 : decode jdk_39_method_1_code 9 = .ok (.return_, 1) := by decide +kernel
def Q_ablinit (Z : State) (zC : Int32) (aE : Addr) (aD : Addr) (aM : Addr) (mO : Addr) (a1 : Addr) (h0 : Heap) (v : Option Value) (h : Heap) (L : List Loc) : Prop := v = none ∧ Fr Z.heap.size L ∧ Keep h0 h [a1] ∧ Exa Z h a1 "java/util/ArrayList" ∧ Fld Z h a1 "java/util/AbstractList" "modCount" "I" (.int (0 : Int32))
theorem pn2 : plainName "java/util/AbstractList" = true := by first | (simp [plainName, overriddenIn]; done) | decide +kernel
theorem rm_ablinit (l : Launch) (Z : State) (a0 : Array Value) (hw : HW a0 Z) (zC : Int32) (SC : tSC Z zC) (PC : ¬ zC = (0 : Int32)) (aE : Addr) (SE : tSE Z aE) (aD : Addr) (SD : tSD Z aD) (aM : Addr) (SM : tSM Z aM) (mO : Addr) (MO : tMO Z mO) (a1 : Addr) (h0 : Heap) (O0 : Old Z Z.heap.size h0) (P1 : Exa Z h0 a1 "java/util/ArrayList") (P2 : Fld Z h0 a1 "java/util/AbstractList" "modCount" "I" (.int (0 : Int32))) (P3 : Z.heap.size ≤ a1) :
    Con l Z (⟨"java/util/AbstractList", "<init>", "()V"⟩ : MethodName) jdk_39_method_1_code 1 none ({ frames := 2, cells := 0, slots := 0, locals := 24 } : Room) #[(.ref a1)] h0 (Q_ablinit Z zC aE aD aM mO a1 h0) := by
  refine Con.intro (plainFor_of_name pn2) ?_
  intro p e s m below meth c T0 X0 hx hby hml hown0 hnm hret hlk hZ0 e0
  have N0 := Fr.nil Z.heap.size
  refine castGo (g' := mkF m 0 #[.val (.ref a1)] []) (by first | rfl | (simp [entryFrame, mkF, argsToLocals, Value.category]; done)) ?_
  show Go _ _ _ _ (T0.setTop (mkF m 0 #[.val (.ref a1)] []))
  refine aL X0 hx (hb hby d_jdk_39m1_0) (q := 1) rfl rfl rfl ?_
  refine g_sp X0 hx hZ0 hown0 (wd60 hw) (wd61 hw) (wd65 hw) rfl (by decide) e0 (Con.back (W := 0) (rm_abcinit l Z a0 hw zC SC PC aE SE aD SD aM SM mO MO a1 h0 O0 ) hZ0 (wd65 hw) (wd64 hw) (by decide) (by decide)) (by rw [hml]; rfl) (lenOf pd0 rfl) rfl (Nat.le_of_eq rfl) (hb hby d_jdk_39m1_1) (q := 4) rfl (by decide) (by decide) ?_
  intro v3 T3 L3 X3 Q3
  obtain ⟨rfl, Nq3, e3⟩ := Q3
  have N3 := Fr.app N0 Nq3
  show Go _ _ _ _ (T3.setTop (mkF m 4 #[.val (.ref a1)] []))
  refine aL X3 hx (hb hby d_jdk_39m1_4) (q := 5) rfl rfl rfl ?_
  refine cI X3 hx (hb hby d_jdk_39m1_5) (q := 6) rfl (z := (0 : Int32)) rfl ?_
  refine g_putF X3 hx hZ0 hown0 (host := "") (Or.inl (wd67 hw)) Via.refl P2 P1 (Or.inl (wd68 hw)) (wd49 hw) (ty := .int) (by decide) rfl rfl e3 (hb hby d_jdk_39m1_6) (q := 9) rfl ?_
  intro T4 h4 X4 e4 W4
  have N4 := Fr.snoc X4 N3 P3
  have Fw4 : Fld Z h4 a1 "java/util/AbstractList" "modCount" "I" (.int (0 : Int32)) := P2.same W4
  have K5 : Keep h0 h4 [a1] := (Keep.refl h0 [a1]).wr W4 (Or.inl (by simp))
  have f6 : Exa Z h4 a1 "java/util/ArrayList" := P1.wr W4
  refine endP X4 hlk (fun _ => rfl) (lastV X4 hx hret (hb hby d_jdk_39m1_9)) ?_ (by decide) (by decide)
  rw [e4]
  exact ⟨rfl, N4, K5, f6, Fw4⟩
theorem wd103 {a0 : Array Value} {Z : State} (hw : HW a0 Z) : ((Jvm.Cond.lays "java/util/ArrayList" "java/util/ArrayList" "size" "I") : Jvm.Cond).before a0 Z = true := hw _ (List.mem_of_getElem? (i := 103) rfl)
theorem wd71 {a0 : Array Value} {Z : State} (hw : HW a0 Z) : ((Jvm.Cond.lays "java/util/ArrayList" "java/util/ArrayList" "elementData" "[Ljava/lang/Object;") : Jvm.Cond).before a0 Z = true := hw _ (List.mem_of_getElem? (i := 71) rfl)
def Q_ablinit2 (Z : State) (zC : Int32) (aE : Addr) (aD : Addr) (aM : Addr) (mO : Addr) (a1 : Addr) (h0 : Heap) (v : Option Value) (h : Heap) (L : List Loc) : Prop := v = none ∧ Fr Z.heap.size L ∧ Keep h0 h [a1] ∧ Exa Z h a1 "java/util/ArrayList" ∧ Fld Z h a1 "java/util/AbstractList" "modCount" "I" (.int (0 : Int32)) ∧ Fld Z h a1 "java/util/ArrayList" "size" "I" (.int (0 : Int32)) ∧ Fld Z h a1 "java/util/ArrayList" "elementData" "[Ljava/lang/Object;" .null
theorem rm_ablinit2 (l : Launch) (Z : State) (a0 : Array Value) (hw : HW a0 Z) (zC : Int32) (SC : tSC Z zC) (PC : ¬ zC = (0 : Int32)) (aE : Addr) (SE : tSE Z aE) (aD : Addr) (SD : tSD Z aD) (aM : Addr) (SM : tSM Z aM) (mO : Addr) (MO : tMO Z mO) (a1 : Addr) (h0 : Heap) (O0 : Old Z Z.heap.size h0) (P1 : Exa Z h0 a1 "java/util/ArrayList") (P2 : Fld Z h0 a1 "java/util/AbstractList" "modCount" "I" (.int (0 : Int32))) (P3 : Z.heap.size ≤ a1) (P4 : Fld Z h0 a1 "java/util/ArrayList" "size" "I" (.int (0 : Int32))) (P5 : Fld Z h0 a1 "java/util/ArrayList" "elementData" "[Ljava/lang/Object;" .null) :
    Con l Z (⟨"java/util/AbstractList", "<init>", "()V"⟩ : MethodName) jdk_39_method_1_code 1 none ({ frames := 2, cells := 0, slots := 0, locals := 24 } : Room) #[(.ref a1)] h0 (Q_ablinit2 Z zC aE aD aM mO a1 h0) := by
  refine Con.intro (plainFor_of_name pn2) ?_
  intro p e s m below meth c T0 X0 hx hby hml hown0 hnm hret hlk hZ0 e0
  have N0 := Fr.nil Z.heap.size
  refine castGo (g' := mkF m 0 #[.val (.ref a1)] []) (by first | rfl | (simp [entryFrame, mkF, argsToLocals, Value.category]; done)) ?_
  show Go _ _ _ _ (T0.setTop (mkF m 0 #[.val (.ref a1)] []))
  refine aL X0 hx (hb hby d_jdk_39m1_0) (q := 1) rfl rfl rfl ?_
  refine g_sp X0 hx hZ0 hown0 (wd60 hw) (wd61 hw) (wd65 hw) rfl (by decide) e0 (Con.back (W := 0) (rm_abcinit l Z a0 hw zC SC PC aE SE aD SD aM SM mO MO a1 h0 O0 ) hZ0 (wd65 hw) (wd64 hw) (by decide) (by decide)) (by rw [hml]; rfl) (lenOf pd0 rfl) rfl (Nat.le_of_eq rfl) (hb hby d_jdk_39m1_1) (q := 4) rfl (by decide) (by decide) ?_
  intro v7 T7 L7 X7 Q7
  obtain ⟨rfl, Nq7, e7⟩ := Q7
  have N7 := Fr.app N0 Nq7
  show Go _ _ _ _ (T7.setTop (mkF m 4 #[.val (.ref a1)] []))
  refine aL X7 hx (hb hby d_jdk_39m1_4) (q := 5) rfl rfl rfl ?_
  refine cI X7 hx (hb hby d_jdk_39m1_5) (q := 6) rfl (z := (0 : Int32)) rfl ?_
  refine g_putF X7 hx hZ0 hown0 (host := "") (Or.inl (wd67 hw)) Via.refl P2 P1 (Or.inl (wd68 hw)) (wd49 hw) (ty := .int) (by decide) rfl rfl e7 (hb hby d_jdk_39m1_6) (q := 9) rfl ?_
  intro T8 h8 X8 e8 W8
  have N8 := Fr.snoc X8 N7 P3
  have Fw8 : Fld Z h8 a1 "java/util/AbstractList" "modCount" "I" (.int (0 : Int32)) := P2.same W8
  have K9 : Keep h0 h8 [a1] := (Keep.refl h0 [a1]).wr W8 (Or.inl (by simp))
  have f10 : Exa Z h8 a1 "java/util/ArrayList" := P1.wr W8
  have f11 : Fld Z h8 a1 "java/util/ArrayList" "size" "I" (.int (0 : Int32)) := P4.other W8 (Or.inr (slot_ne (Or.inl (wd103 hw)) (Or.inl (wd68 hw)) (by decide) (t := .int) (t' := .int) (by decide) (by decide)))
  have f12 : Fld Z h8 a1 "java/util/ArrayList" "elementData" "[Ljava/lang/Object;" .null := P5.other W8 (Or.inr (slot_ne (Or.inl (wd71 hw)) (Or.inl (wd68 hw)) (by decide) (t := (.array (.object "java/lang/Object"))) (t' := .int) (by decide) (by decide)))
  refine endP X8 hlk (fun _ => rfl) (lastV X8 hx hret (hb hby d_jdk_39m1_9)) ?_ (by decide) (by decide)
  rw [e8]
  exact ⟨rfl, N8, K9, f10, Fw8, f11, f12⟩
theorem d_jdk_38m2_0 : decode jdk_38_method_2_code 0 = .ok (.aload_n 0, 1) := by decide +kernel
theorem d_jdk_38m2_1 : decode jdk_38_method_2_code 1 = .ok (.invokespecial 1, 3) := by decide +kernel
theorem wd59 {a0 : Array Value} {Z : State} (hw : HW a0 Z) : ((Jvm.Cond.code ({ cls := "java/util/AbstractList", name := "<init>", desc := "()V" } : Jvm.MethodName) jdk_39_method_1_code (1 : Nat) (Option.none : Option Jvm.ClassFile.FieldType)) : Jvm.Cond).before a0 Z = true := hw _ (List.mem_of_getElem? (i := 59) rfl)
theorem wd58 {a0 : Array Value} {Z : State} (hw : HW a0 Z) : ((Jvm.Cond.initialized "java/util/AbstractList") : Jvm.Cond).before a0 Z = true := hw _ (List.mem_of_getElem? (i := 58) rfl)
theorem wd54 {a0 : Array Value} {Z : State} (hw : HW a0 Z) : ((Jvm.Cond.methodLink "java/util/ArrayList" (1 : Nat) ({ cls := "java/util/AbstractList", name := "<init>", desc := "()V" } : Jvm.MethodName)) : Jvm.Cond).before a0 Z = true := hw _ (List.mem_of_getElem? (i := 54) rfl)
theorem wd55 {a0 : Array Value} {Z : State} (hw : HW a0 Z) : ((Jvm.Cond.instanceMethod ({ cls := "java/util/AbstractList", name := "<init>", desc := "()V" } : Jvm.MethodName)) : Jvm.Cond).before a0 Z = true := hw _ (List.mem_of_getElem? (i := 55) rfl)
theorem d_jdk_38m2_4 : decode jdk_38_method_2_code 4 = .ok (.aload_n 0, 1) := by decide +kernel
theorem d_jdk_38m2_5 : decode jdk_38_method_2_code 5 = .ok (.getstatic 39, 3) := by decide +kernel
theorem wd69 {a0 : Array Value} {Z : State} (hw : HW a0 Z) : ((Jvm.Cond.fieldLink "java/util/ArrayList" (39 : Nat) "java/util/ArrayList" "DEFAULTCAPACITY_EMPTY_ELEMENTDATA" "[Ljava/lang/Object;") : Jvm.Cond).before a0 Z = true := hw _ (List.mem_of_getElem? (i := 69) rfl)
theorem d_jdk_38m2_8 : decode jdk_38_method_2_code 8 = .ok (.putfield 9, 3) := by decide +kernel
theorem wd70 {a0 : Array Value} {Z : State} (hw : HW a0 Z) : ((Jvm.Cond.fieldLink "java/util/ArrayList" (9 : Nat) "java/util/ArrayList" "elementData" "[Ljava/lang/Object;") : Jvm.Cond).before a0 Z = true := hw _ (List.mem_of_getElem? (i := 70) rfl)
theorem d_jdk_38m2_11 : decode jdk_38_method_2_code 11 = .ok (.return_, 1) := by decide +kernel
def Q_alinit (Z : State) (zC : Int32) (aE : Addr) (aD : Addr) (aM : Addr) (mO : Addr) (a1 : Addr) (h0 : Heap) (v : Option Value) (h : Heap) (L : List Loc) : Prop := v = none ∧ Fr Z.heap.size L ∧ Keep h0 h [a1] ∧ Exa Z h a1 "java/util/ArrayList" ∧ Fld Z h a1 "java/util/AbstractList" "modCount" "I" (.int (0 : Int32)) ∧ Fld Z h a1 "java/util/ArrayList" "size" "I" (.int (0 : Int32)) ∧ Fld Z h a1 "java/util/ArrayList" "elementData" "[Ljava/lang/Object;" (.ref aD)
theorem pn3 : plainName "java/util/ArrayList" = true := by first | (simp [plainName, overriddenIn]; done) | decide +kernel
theorem rm_alinit (l : Launch) (Z : State) (a0 : Array Value) (hw : HW a0 Z) (zC : Int32) (SC : tSC Z zC) (PC : ¬ zC = (0 : Int32)) (aE : Addr) (SE : tSE Z aE) (aD : Addr) (SD : tSD Z aD) (aM : Addr) (SM : tSM Z aM) (mO : Addr) (MO : tMO Z mO) (a1 : Addr) (h0 : Heap) (O0 : Old Z Z.heap.size h0) (P1 : Exa Z h0 a1 "java/util/ArrayList") (P2 : Fld Z h0 a1 "java/util/AbstractList" "modCount" "I" (.int (0 : Int32))) (P3 : Z.heap.size ≤ a1) (P4 : Fld Z h0 a1 "java/util/ArrayList" "size" "I" (.int (0 : Int32))) (P5 : Fld Z h0 a1 "java/util/ArrayList" "elementData" "[Ljava/lang/Object;" .null) :
    Con l Z (⟨"java/util/ArrayList", "<init>", "()V"⟩ : MethodName) jdk_38_method_2_code 1 none ({ frames := 3, cells := 0, slots := 0, locals := 36 } : Room) #[(.ref a1)] h0 (Q_alinit Z zC aE aD aM mO a1 h0) := by
  refine Con.intro (plainFor_of_name pn3) ?_
  intro p e s m below meth c T0 X0 hx hby hml hown0 hnm hret hlk hZ0 e0
  have N0 := Fr.nil Z.heap.size
  refine castGo (g' := mkF m 0 #[.val (.ref a1)] []) (by first | rfl | (simp [entryFrame, mkF, argsToLocals, Value.category]; done)) ?_
  show Go _ _ _ _ (T0.setTop (mkF m 0 #[.val (.ref a1)] []))
  refine aL X0 hx (hb hby d_jdk_38m2_0) (q := 1) rfl rfl rfl ?_
  refine g_sp X0 hx hZ0 hown0 (wd54 hw) (wd55 hw) (wd59 hw) rfl (by decide) e0 (Con.back (W := 0) (rm_ablinit2 l Z a0 hw zC SC PC aE SE aD SD aM SM mO MO a1 h0 O0 P1 P2 P3 P4 P5) hZ0 (wd59 hw) (wd58 hw) (by decide) (by decide)) (by rw [hml]; rfl) (lenOf pd0 rfl) rfl (Nat.le_of_eq rfl) (hb hby d_jdk_38m2_1) (q := 4) rfl (by decide) (by decide) ?_
  intro v13 T13 L13 X13 Q13
  obtain ⟨rfl, Nq13, K13q, q13_0, q13_1, q13_2, q13_3⟩ := Q13
  have N13 := Fr.app N0 Nq13
  show Go _ _ _ _ (T13.setTop (mkF m 4 #[.val (.ref a1)] []))
  refine aL X13 hx (hb hby d_jdk_38m2_4) (q := 5) rfl rfl rfl ?_
  have f15 : Old Z Z.heap.size T13.heap := O0.keep K13q (allS P3 all0)
  refine g_getS X13 hx hZ0 hown0 (host := "") (Or.inl (wd69 hw)) Via.refl (SD.ext f15.2) rfl (hb hby d_jdk_38m2_5) (q := 8) rfl ?_
  intro T14 X14 e14
  refine g_putF X14 hx hZ0 hown0 (host := "") (Or.inl (wd70 hw)) Via.refl q13_3 q13_0 (Or.inl (wd71 hw)) (wd49 hw) (ty := (.array (.object "java/lang/Object"))) (by decide) rfl rfl e14 (hb hby d_jdk_38m2_8) (q := 11) rfl ?_
  intro T16 h16 X16 e16 W16
  have N16 := Fr.snoc X16 N13 P3
  have Fw16 : Fld Z h16 a1 "java/util/ArrayList" "elementData" "[Ljava/lang/Object;" (.ref aD) := q13_3.same W16
  have K17 : Keep h0 T13.heap [a1] := (Keep.refl h0 [a1]).trans K13q (allS (Or.inl (by simp)) all0)
  have K18 : Keep h0 h16 [a1] := K17.wr W16 (Or.inl (by simp))
  have f19 : Exa Z h16 a1 "java/util/ArrayList" := q13_0.wr W16
  have f20 : Fld Z h16 a1 "java/util/AbstractList" "modCount" "I" (.int (0 : Int32)) := q13_1.other W16 (Or.inr (slot_ne (Or.inl (wd68 hw)) (Or.inl (wd71 hw)) (by decide) (t := .int) (t' := (.array (.object "java/lang/Object"))) (by decide) (by decide)))
  have f21 : Fld Z h16 a1 "java/util/ArrayList" "size" "I" (.int (0 : Int32)) := q13_2.other W16 (Or.inr (slot_ne (Or.inl (wd103 hw)) (Or.inl (wd71 hw)) (by decide) (t := .int) (t' := (.array (.object "java/lang/Object"))) (by decide) (by decide)))
  refine endP X16 hlk (fun _ => rfl) (lastV X16 hx hret (hb hby d_jdk_38m2_11)) ?_ (by decide) (by decide)
  rw [e16]
  exact ⟨rfl, N16, K18, f19, f20, f21, Fw16⟩
theorem d_prog_24m1_0 : decode prog_24_method_1_code 0 = .ok (.aload_n 0, 1) := by decide +kernel
theorem d_prog_24m1_1 : decode prog_24_method_1_code 1 = .ok (.invokespecial 1, 3) := by decide +kernel
theorem wd40 {a0 : Array Value} {Z : State} (hw : HW a0 Z) : ((Jvm.Cond.code ({ cls := "java/lang/Record", name := "<init>", desc := "()V" } : Jvm.MethodName) jdk_30_method_1_code (1 : Nat) (Option.none : Option Jvm.ClassFile.FieldType)) : Jvm.Cond).before a0 Z = true := hw _ (List.mem_of_getElem? (i := 40) rfl)
theorem wd39 {a0 : Array Value} {Z : State} (hw : HW a0 Z) : ((Jvm.Cond.initialized "java/lang/Record") : Jvm.Cond).before a0 Z = true := hw _ (List.mem_of_getElem? (i := 39) rfl)
theorem wd36 {a0 : Array Value} {Z : State} (hw : HW a0 Z) : ((Jvm.Cond.methodLink "com/example/quaymark/quaymark/Review$LeftOut" (1 : Nat) ({ cls := "java/lang/Record", name := "<init>", desc := "()V" } : Jvm.MethodName)) : Jvm.Cond).before a0 Z = true := hw _ (List.mem_of_getElem? (i := 36) rfl)
theorem wd37 {a0 : Array Value} {Z : State} (hw : HW a0 Z) : ((Jvm.Cond.instanceMethod ({ cls := "java/lang/Record", name := "<init>", desc := "()V" } : Jvm.MethodName)) : Jvm.Cond).before a0 Z = true := hw _ (List.mem_of_getElem? (i := 37) rfl)
theorem d_prog_24m1_4 : decode prog_24_method_1_code 4 = .ok (.aload_n 0, 1) := by decide +kernel
theorem d_prog_24m1_5 : decode prog_24_method_1_code 5 = .ok (.iload_n 1, 1) := by decide +kernel
theorem d_prog_24m1_6 : decode prog_24_method_1_code 6 = .ok (.putfield 7, 3) := by decide +kernel
theorem wd42 {a0 : Array Value} {Z : State} (hw : HW a0 Z) : ((Jvm.Cond.fieldLink "com/example/quaymark/quaymark/Review$LeftOut" (7 : Nat) "com/example/quaymark/quaymark/Review$LeftOut" "line" "I") : Jvm.Cond).before a0 Z = true := hw _ (List.mem_of_getElem? (i := 42) rfl)
theorem wd43 {a0 : Array Value} {Z : State} (hw : HW a0 Z) : ((Jvm.Cond.laysFinal "com/example/quaymark/quaymark/Review$LeftOut" "com/example/quaymark/quaymark/Review$LeftOut" "line" "I") : Jvm.Cond).before a0 Z = true := hw _ (List.mem_of_getElem? (i := 43) rfl)
theorem wd31 {a0 : Array Value} {Z : State} (hw : HW a0 Z) : ((Jvm.Cond.instantiable "com/example/quaymark/quaymark/Review$LeftOut" (3 : Nat)) : Jvm.Cond).before a0 Z = true := hw _ (List.mem_of_getElem? (i := 31) rfl)
theorem d_prog_24m1_9 : decode prog_24_method_1_code 9 = .ok (.aload_n 0, 1) := by decide +kernel
theorem d_prog_24m1_10 : decode prog_24_method_1_code 10 = .ok (.aload_n 2, 1) := by decide +kernel
theorem d_prog_24m1_11 : decode prog_24_method_1_code 11 = .ok (.putfield 13, 3) := by decide +kernel
theorem wd44 {a0 : Array Value} {Z : State} (hw : HW a0 Z) : ((Jvm.Cond.fieldLink "com/example/quaymark/quaymark/Review$LeftOut" (13 : Nat) "com/example/quaymark/quaymark/Review$LeftOut" "reason" "Ljava/lang/String;") : Jvm.Cond).before a0 Z = true := hw _ (List.mem_of_getElem? (i := 44) rfl)
theorem wd45 {a0 : Array Value} {Z : State} (hw : HW a0 Z) : ((Jvm.Cond.laysFinal "com/example/quaymark/quaymark/Review$LeftOut" "com/example/quaymark/quaymark/Review$LeftOut" "reason" "Ljava/lang/String;") : Jvm.Cond).before a0 Z = true := hw _ (List.mem_of_getElem? (i := 45) rfl)
theorem d_prog_24m1_14 : decode prog_24_method_1_code 14 = .ok (.aload_n 0, 1) := by decide +kernel
theorem d_prog_24m1_15 : decode prog_24_method_1_code 15 = .ok (.aload_n 3, 1) := by decide +kernel
theorem d_prog_24m1_16 : decode prog_24_method_1_code 16 = .ok (.putfield 17, 3) := by decide +kernel
theorem wd46 {a0 : Array Value} {Z : State} (hw : HW a0 Z) : ((Jvm.Cond.fieldLink "com/example/quaymark/quaymark/Review$LeftOut" (17 : Nat) "com/example/quaymark/quaymark/Review$LeftOut" "by" "Ljava/lang/String;") : Jvm.Cond).before a0 Z = true := hw _ (List.mem_of_getElem? (i := 46) rfl)
theorem wd47 {a0 : Array Value} {Z : State} (hw : HW a0 Z) : ((Jvm.Cond.laysFinal "com/example/quaymark/quaymark/Review$LeftOut" "com/example/quaymark/quaymark/Review$LeftOut" "by" "Ljava/lang/String;") : Jvm.Cond).before a0 Z = true := hw _ (List.mem_of_getElem? (i := 47) rfl)
theorem d_prog_24m1_19 : decode prog_24_method_1_code 19 = .ok (.return_, 1) := by decide +kernel
def Q_loinit (Z : State) (zC : Int32) (aE : Addr) (aD : Addr) (aM : Addr) (mO : Addr) (a1 : Addr) (p1 : Int32) (a2 : Addr) (a3 : Addr) (h0 : Heap) (v : Option Value) (h : Heap) (L : List Loc) : Prop := v = none ∧ Fr Z.heap.size L ∧ Keep h0 h [a1] ∧ Exa Z h a1 "com/example/quaymark/quaymark/Review$LeftOut"
theorem pn4 : plainName "com/example/quaymark/quaymark/Review$LeftOut" = true := by first | (simp [plainName, overriddenIn]; done) | decide +kernel
theorem rm_loinit (l : Launch) (Z : State) (a0 : Array Value) (hw : HW a0 Z) (zC : Int32) (SC : tSC Z zC) (PC : ¬ zC = (0 : Int32)) (aE : Addr) (SE : tSE Z aE) (aD : Addr) (SD : tSD Z aD) (aM : Addr) (SM : tSM Z aM) (mO : Addr) (MO : tMO Z mO) (a1 : Addr) (p1 : Int32) (a2 : Addr) (a3 : Addr) (h0 : Heap) (O0 : Old Z Z.heap.size h0) (P1 : Exa Z h0 a1 "com/example/quaymark/quaymark/Review$LeftOut") (P2 : Fld Z h0 a1 "com/example/quaymark/quaymark/Review$LeftOut" "line" "I" (.int (0 : Int32))) (P3 : Fld Z h0 a1 "com/example/quaymark/quaymark/Review$LeftOut" "reason" "Ljava/lang/String;" .null) (P4 : Fld Z h0 a1 "com/example/quaymark/quaymark/Review$LeftOut" "by" "Ljava/lang/String;" .null) (P5 : Z.heap.size ≤ a1) :
    Con l Z (⟨"com/example/quaymark/quaymark/Review$LeftOut", "<init>", "(ILjava/lang/String;Ljava/lang/String;)V"⟩ : MethodName) prog_24_method_1_code 4 none ({ frames := 2, cells := 0, slots := 0, locals := 24 } : Room) #[(.ref a1), (.int p1), (.ref a2), (.ref a3)] h0 (Q_loinit Z zC aE aD aM mO a1 p1 a2 a3 h0) := by
  refine Con.intro (plainFor_of_name pn4) ?_
  intro p e s m below meth c T0 X0 hx hby hml hown0 hnm hret hlk hZ0 e0
  have N0 := Fr.nil Z.heap.size
  refine castGo (g' := mkF m 0 #[.val (.ref a1), .val (.int p1), .val (.ref a2), .val (.ref a3)] []) (by first | rfl | (simp [entryFrame, mkF, argsToLocals, Value.category]; done)) ?_
  show Go _ _ _ _ (T0.setTop (mkF m 0 #[.val (.ref a1), .val (.int p1), .val (.ref a2), .val (.ref a3)] []))
  refine aL X0 hx (hb hby d_prog_24m1_0) (q := 1) rfl rfl rfl ?_
  refine g_sp X0 hx hZ0 hown0 (wd36 hw) (wd37 hw) (wd40 hw) rfl (by decide) e0 (Con.back (W := 0) (rm_recinit l Z a0 hw zC SC PC aE SE aD SD aM SM mO MO a1 h0 O0 ) hZ0 (wd40 hw) (wd39 hw) (by decide) (by decide)) (by rw [hml]; rfl) (lenOf pd0 rfl) rfl (Nat.le_of_eq rfl) (hb hby d_prog_24m1_1) (q := 4) rfl (by decide) (by decide) ?_
  intro v22 T22 L22 X22 Q22
  obtain ⟨rfl, Nq22, e22⟩ := Q22
  have N22 := Fr.app N0 Nq22
  show Go _ _ _ _ (T22.setTop (mkF m 4 #[.val (.ref a1), .val (.int p1), .val (.ref a2), .val (.ref a3)] []))
  refine aL X22 hx (hb hby d_prog_24m1_4) (q := 5) rfl rfl rfl ?_
  refine iL X22 hx (hb hby d_prog_24m1_5) (q := 6) rfl rfl ?_
  refine g_putF X22 hx hZ0 hown0 (host := "") (Or.inl (wd42 hw)) Via.refl P2 P1 (Or.inr ⟨(wd43 hw), rfl, hnm⟩) (wd31 hw) (ty := .int) (by decide) rfl rfl e22 (hb hby d_prog_24m1_6) (q := 9) rfl ?_
  intro T23 h23 X23 e23 W23
  have N23 := Fr.snoc X23 N22 P5
  have Fw23 : Fld Z h23 a1 "com/example/quaymark/quaymark/Review$LeftOut" "line" "I" (.int p1) := P2.same W23
  refine aL X23 hx (hb hby d_prog_24m1_9) (q := 10) rfl rfl rfl ?_
  refine aL X23 hx (hb hby d_prog_24m1_10) (q := 11) rfl rfl rfl ?_
  have f24 : Fld Z h23 a1 "com/example/quaymark/quaymark/Review$LeftOut" "reason" "Ljava/lang/String;" .null := P3.other W23 (Or.inr (slot_ne (Or.inr (wd45 hw)) (Or.inr (wd43 hw)) (by decide) (t := (.object "java/lang/String")) (t' := .int) (by decide) (by decide)))
  have f25 : Exa Z h23 a1 "com/example/quaymark/quaymark/Review$LeftOut" := P1.wr W23
  refine g_putF X23 hx hZ0 hown0 (host := "") (Or.inl (wd44 hw)) Via.refl f24 f25 (Or.inr ⟨(wd45 hw), rfl, hnm⟩) (wd31 hw) (ty := (.object "java/lang/String")) (by decide) rfl rfl e23 (hb hby d_prog_24m1_11) (q := 14) rfl ?_
  intro T26 h26 X26 e26 W26
  have N26 := Fr.snoc X26 N23 P5
  have Fw26 : Fld Z h26 a1 "com/example/quaymark/quaymark/Review$LeftOut" "reason" "Ljava/lang/String;" (.ref a2) := f24.same W26
  refine aL X26 hx (hb hby d_prog_24m1_14) (q := 15) rfl rfl rfl ?_
  refine aL X26 hx (hb hby d_prog_24m1_15) (q := 16) rfl rfl rfl ?_
  have f27 : Fld Z h23 a1 "com/example/quaymark/quaymark/Review$LeftOut" "by" "Ljava/lang/String;" .null := P4.other W23 (Or.inr (slot_ne (Or.inr (wd47 hw)) (Or.inr (wd43 hw)) (by decide) (t := (.object "java/lang/String")) (t' := .int) (by decide) (by decide)))
  have f28 : Fld Z h26 a1 "com/example/quaymark/quaymark/Review$LeftOut" "by" "Ljava/lang/String;" .null := f27.other W26 (Or.inr (slot_ne (Or.inr (wd47 hw)) (Or.inr (wd45 hw)) (by decide) (t := (.object "java/lang/String")) (t' := (.object "java/lang/String")) (by decide) (by decide)))
  have f29 : Exa Z h26 a1 "com/example/quaymark/quaymark/Review$LeftOut" := f25.wr W26
  refine g_putF X26 hx hZ0 hown0 (host := "") (Or.inl (wd46 hw)) Via.refl f28 f29 (Or.inr ⟨(wd47 hw), rfl, hnm⟩) (wd31 hw) (ty := (.object "java/lang/String")) (by decide) rfl rfl e26 (hb hby d_prog_24m1_16) (q := 19) rfl ?_
  intro T30 h30 X30 e30 W30
  have N30 := Fr.snoc X30 N26 P5
  have Fw30 : Fld Z h30 a1 "com/example/quaymark/quaymark/Review$LeftOut" "by" "Ljava/lang/String;" (.ref a3) := f28.same W30
  have K31 : Keep h0 h23 [a1] := (Keep.refl h0 [a1]).wr W23 (Or.inl (by simp))
  have K32 : Keep h0 h26 [a1] := K31.wr W26 (Or.inl (by simp))
  have K33 : Keep h0 h30 [a1] := K32.wr W30 (Or.inl (by simp))
  have f34 : Exa Z h30 a1 "com/example/quaymark/quaymark/Review$LeftOut" := f29.wr W30
  refine endP X30 hlk (fun _ => rfl) (lastV X30 hx hret (hb hby d_prog_24m1_19)) ?_ (by decide) (by decide)
  rw [e30]
  exact ⟨rfl, N30, K33, f34⟩
theorem d_prog_25m1_0 : decode prog_25_method_1_code 0 = .ok (.aload_n 0, 1) := by decide +kernel
theorem d_prog_25m1_1 : decode prog_25_method_1_code 1 = .ok (.invokespecial 1, 3) := by decide +kernel
theorem wd168 {a0 : Array Value} {Z : State} (hw : HW a0 Z) : ((Jvm.Cond.methodLink "com/example/quaymark/quaymark/Review$Withdrawal" (1 : Nat) ({ cls := "java/lang/Record", name := "<init>", desc := "()V" } : Jvm.MethodName)) : Jvm.Cond).before a0 Z = true := hw _ (List.mem_of_getElem? (i := 168) rfl)
theorem d_prog_25m1_4 : decode prog_25_method_1_code 4 = .ok (.aload_n 0, 1) := by decide +kernel
theorem d_prog_25m1_5 : decode prog_25_method_1_code 5 = .ok (.aload_n 1, 1) := by decide +kernel
theorem d_prog_25m1_6 : decode prog_25_method_1_code 6 = .ok (.putfield 7, 3) := by decide +kernel
theorem wd169 {a0 : Array Value} {Z : State} (hw : HW a0 Z) : ((Jvm.Cond.fieldLink "com/example/quaymark/quaymark/Review$Withdrawal" (7 : Nat) "com/example/quaymark/quaymark/Review$Withdrawal" "reason" "Ljava/lang/String;") : Jvm.Cond).before a0 Z = true := hw _ (List.mem_of_getElem? (i := 169) rfl)
theorem wd170 {a0 : Array Value} {Z : State} (hw : HW a0 Z) : ((Jvm.Cond.laysFinal "com/example/quaymark/quaymark/Review$Withdrawal" "com/example/quaymark/quaymark/Review$Withdrawal" "reason" "Ljava/lang/String;") : Jvm.Cond).before a0 Z = true := hw _ (List.mem_of_getElem? (i := 170) rfl)
theorem wd163 {a0 : Array Value} {Z : State} (hw : HW a0 Z) : ((Jvm.Cond.instantiable "com/example/quaymark/quaymark/Review$Withdrawal" (2 : Nat)) : Jvm.Cond).before a0 Z = true := hw _ (List.mem_of_getElem? (i := 163) rfl)
theorem d_prog_25m1_9 : decode prog_25_method_1_code 9 = .ok (.aload_n 0, 1) := by decide +kernel
theorem d_prog_25m1_10 : decode prog_25_method_1_code 10 = .ok (.aload_n 2, 1) := by decide +kernel
theorem d_prog_25m1_11 : decode prog_25_method_1_code 11 = .ok (.putfield 13, 3) := by decide +kernel
theorem wd171 {a0 : Array Value} {Z : State} (hw : HW a0 Z) : ((Jvm.Cond.fieldLink "com/example/quaymark/quaymark/Review$Withdrawal" (13 : Nat) "com/example/quaymark/quaymark/Review$Withdrawal" "by" "Ljava/lang/String;") : Jvm.Cond).before a0 Z = true := hw _ (List.mem_of_getElem? (i := 171) rfl)
theorem wd172 {a0 : Array Value} {Z : State} (hw : HW a0 Z) : ((Jvm.Cond.laysFinal "com/example/quaymark/quaymark/Review$Withdrawal" "com/example/quaymark/quaymark/Review$Withdrawal" "by" "Ljava/lang/String;") : Jvm.Cond).before a0 Z = true := hw _ (List.mem_of_getElem? (i := 172) rfl)
theorem d_prog_25m1_14 : decode prog_25_method_1_code 14 = .ok (.return_, 1) := by decide +kernel
def Q_wdinit (Z : State) (zC : Int32) (aE : Addr) (aD : Addr) (aM : Addr) (mO : Addr) (a1 : Addr) (a2 : Addr) (a3 : Addr) (h0 : Heap) (v : Option Value) (h : Heap) (L : List Loc) : Prop := v = none ∧ Fr Z.heap.size L ∧ Keep h0 h [a1] ∧ Exa Z h a1 "com/example/quaymark/quaymark/Review$Withdrawal"
theorem pn5 : plainName "com/example/quaymark/quaymark/Review$Withdrawal" = true := by first | (simp [plainName, overriddenIn]; done) | decide +kernel
theorem rm_wdinit (l : Launch) (Z : State) (a0 : Array Value) (hw : HW a0 Z) (zC : Int32) (SC : tSC Z zC) (PC : ¬ zC = (0 : Int32)) (aE : Addr) (SE : tSE Z aE) (aD : Addr) (SD : tSD Z aD) (aM : Addr) (SM : tSM Z aM) (mO : Addr) (MO : tMO Z mO) (a1 : Addr) (a2 : Addr) (a3 : Addr) (h0 : Heap) (O0 : Old Z Z.heap.size h0) (P1 : Exa Z h0 a1 "com/example/quaymark/quaymark/Review$Withdrawal") (P3 : Fld Z h0 a1 "com/example/quaymark/quaymark/Review$Withdrawal" "reason" "Ljava/lang/String;" .null) (P4 : Fld Z h0 a1 "com/example/quaymark/quaymark/Review$Withdrawal" "by" "Ljava/lang/String;" .null) (P5 : Z.heap.size ≤ a1) :
    Con l Z (⟨"com/example/quaymark/quaymark/Review$Withdrawal", "<init>", "(Ljava/lang/String;Ljava/lang/String;)V"⟩ : MethodName) prog_25_method_1_code 3 none ({ frames := 2, cells := 0, slots := 0, locals := 24 } : Room) #[(.ref a1), (.ref a2), (.ref a3)] h0 (Q_wdinit Z zC aE aD aM mO a1 a2 a3 h0) := by
  refine Con.intro (plainFor_of_name pn5) ?_
  intro p e s m below meth c T0 X0 hx hby hml hown0 hnm hret hlk hZ0 e0
  have N0 := Fr.nil Z.heap.size
  refine castGo (g' := mkF m 0 #[.val (.ref a1), .val (.ref a2), .val (.ref a3)] []) (by first | rfl | (simp [entryFrame, mkF, argsToLocals, Value.category]; done)) ?_
  show Go _ _ _ _ (T0.setTop (mkF m 0 #[.val (.ref a1), .val (.ref a2), .val (.ref a3)] []))
  refine aL X0 hx (hb hby d_prog_25m1_0) (q := 1) rfl rfl rfl ?_
  refine g_sp X0 hx hZ0 hown0 (wd168 hw) (wd37 hw) (wd40 hw) rfl (by decide) e0 (Con.back (W := 0) (rm_recinit l Z a0 hw zC SC PC aE SE aD SD aM SM mO MO a1 h0 O0 ) hZ0 (wd40 hw) (wd39 hw) (by decide) (by decide)) (by rw [hml]; rfl) (lenOf pd0 rfl) rfl (Nat.le_of_eq rfl) (hb hby d_prog_25m1_1) (q := 4) rfl (by decide) (by decide) ?_
  intro v35 T35 L35 X35 Q35
  obtain ⟨rfl, Nq35, e35⟩ := Q35
  have N35 := Fr.app N0 Nq35
  show Go _ _ _ _ (T35.setTop (mkF m 4 #[.val (.ref a1), .val (.ref a2), .val (.ref a3)] []))
  refine aL X35 hx (hb hby d_prog_25m1_4) (q := 5) rfl rfl rfl ?_
  refine aL X35 hx (hb hby d_prog_25m1_5) (q := 6) rfl rfl rfl ?_
  refine g_putF X35 hx hZ0 hown0 (host := "") (Or.inl (wd169 hw)) Via.refl P3 P1 (Or.inr ⟨(wd170 hw), rfl, hnm⟩) (wd163 hw) (ty := (.object "java/lang/String")) (by decide) rfl rfl e35 (hb hby d_prog_25m1_6) (q := 9) rfl ?_
  intro T36 h36 X36 e36 W36
  have N36 := Fr.snoc X36 N35 P5
  have Fw36 : Fld Z h36 a1 "com/example/quaymark/quaymark/Review$Withdrawal" "reason" "Ljava/lang/String;" (.ref a2) := P3.same W36
  refine aL X36 hx (hb hby d_prog_25m1_9) (q := 10) rfl rfl rfl ?_
  refine aL X36 hx (hb hby d_prog_25m1_10) (q := 11) rfl rfl rfl ?_
  have f37 : Fld Z h36 a1 "com/example/quaymark/quaymark/Review$Withdrawal" "by" "Ljava/lang/String;" .null := P4.other W36 (Or.inr (slot_ne (Or.inr (wd172 hw)) (Or.inr (wd170 hw)) (by decide) (t := (.object "java/lang/String")) (t' := (.object "java/lang/String")) (by decide) (by decide)))
  have f38 : Exa Z h36 a1 "com/example/quaymark/quaymark/Review$Withdrawal" := P1.wr W36
  refine g_putF X36 hx hZ0 hown0 (host := "") (Or.inl (wd171 hw)) Via.refl f37 f38 (Or.inr ⟨(wd172 hw), rfl, hnm⟩) (wd163 hw) (ty := (.object "java/lang/String")) (by decide) rfl rfl e36 (hb hby d_prog_25m1_11) (q := 14) rfl ?_
  intro T39 h39 X39 e39 W39
  have N39 := Fr.snoc X39 N36 P5
  have Fw39 : Fld Z h39 a1 "com/example/quaymark/quaymark/Review$Withdrawal" "by" "Ljava/lang/String;" (.ref a3) := f37.same W39
  have K40 : Keep h0 h36 [a1] := (Keep.refl h0 [a1]).wr W36 (Or.inl (by simp))
  have K41 : Keep h0 h39 [a1] := K40.wr W39 (Or.inl (by simp))
  have f42 : Exa Z h39 a1 "com/example/quaymark/quaymark/Review$Withdrawal" := f38.wr W39
  refine endP X39 hlk (fun _ => rfl) (lastV X39 hx hret (hb hby d_prog_25m1_14)) ?_ (by decide) (by decide)
  rw [e39]
  exact ⟨rfl, N39, K41, f42⟩
theorem d_jdk_29m65_0 : decode jdk_29_method_65_code 0 = .ok (.iload_n 0, 1) := by decide +kernel
theorem d_jdk_29m65_1 : decode jdk_29_method_65_code 1 = .ok (.iload_n 1, 1) := by decide +kernel
theorem d_jdk_29m65_2 : decode jdk_29_method_65_code 2 = .ok (.if_icmp .lt 7, 3) := by decide +kernel
theorem d_jdk_29m65_5 : decode jdk_29_method_65_code 5 = .ok (.iload_n 0, 1) := by decide +kernel
theorem d_jdk_29m65_6 : decode jdk_29_method_65_code 6 = .ok (.goto 4, 3) := by decide +kernel
theorem d_jdk_29m65_10 : decode jdk_29_method_65_code 10 = .ok (.ireturn, 1) := by decide +kernel
def Q_max (Z : State) (zC : Int32) (aE : Addr) (aD : Addr) (aM : Addr) (mO : Addr) (h0 : Heap) (v : Option Value) (h : Heap) (L : List Loc) : Prop := v = some (.int (10 : Int32)) ∧ Fr Z.heap.size L ∧ h = h0
theorem pf6 : plainFor (⟨"java/lang/Math", "max", "(II)I"⟩ : MethodName) = true := by decide +kernel
theorem rm_max (l : Launch) (Z : State) (a0 : Array Value) (hw : HW a0 Z) (zC : Int32) (SC : tSC Z zC) (PC : ¬ zC = (0 : Int32)) (aE : Addr) (SE : tSE Z aE) (aD : Addr) (SD : tSD Z aD) (aM : Addr) (SM : tSM Z aM) (mO : Addr) (MO : tMO Z mO)  (h0 : Heap) (O0 : Old Z Z.heap.size h0)  :
    Con l Z (⟨"java/lang/Math", "max", "(II)I"⟩ : MethodName) jdk_29_method_65_code 2 (some .int) ({ frames := 0, cells := 0, slots := 0, locals := 0 } : Room) #[(.int (10 : Int32)), (.int (1 : Int32))] h0 (Q_max Z zC aE aD aM mO h0) := by
  refine Con.intro pf6 ?_
  intro p e s m below meth c T0 X0 hx hby hml hown0 hnm hret hlk hZ0 e0
  have N0 := Fr.nil Z.heap.size
  refine castGo (g' := mkF m 0 #[.val (.int (10 : Int32)), .val (.int (1 : Int32))] []) (by first | rfl | (simp [entryFrame, mkF, argsToLocals, Value.category]; done)) ?_
  show Go _ _ _ _ (T0.setTop (mkF m 0 #[.val (.int (10 : Int32)), .val (.int (1 : Int32))] []))
  refine iL X0 hx (hb hby d_jdk_29m65_0) (q := 1) rfl rfl ?_
  refine iL X0 hx (hb hby d_jdk_29m65_1) (q := 2) rfl rfl ?_
  refine icN X0 hx (hb hby d_jdk_29m65_2) (q := 5) rfl (by decide) ?_
  refine iL X0 hx (hb hby d_jdk_29m65_5) (q := 6) rfl rfl ?_
  refine g_goto X0 hx (hb hby d_jdk_29m65_6) (q := 10) (by decide) (by decide) ?_
  refine endP X0 hlk (fun h => by rw [hret] at h; cases h) (lastI X0 hx hret (hb hby d_jdk_29m65_10)) ?_ (by decide) (by decide)
  rw [e0]
  exact ⟨rfl, N0, rfl⟩
theorem d_jdk_29m69_0 : decode jdk_29_method_69_code 0 = .ok (.iload_n 0, 1) := by decide +kernel
theorem d_jdk_29m69_1 : decode jdk_29_method_69_code 1 = .ok (.iload_n 1, 1) := by decide +kernel
theorem d_jdk_29m69_2 : decode jdk_29_method_69_code 2 = .ok (.if_icmp .gt 7, 3) := by decide +kernel
theorem d_jdk_29m69_9 : decode jdk_29_method_69_code 9 = .ok (.iload_n 1, 1) := by decide +kernel
theorem d_jdk_29m69_10 : decode jdk_29_method_69_code 10 = .ok (.ireturn, 1) := by decide +kernel
def Q_min1 (Z : State) (zC : Int32) (aE : Addr) (aD : Addr) (aM : Addr) (mO : Addr) (h0 : Heap) (v : Option Value) (h : Heap) (L : List Loc) : Prop := v = some (.int (1 : Int32)) ∧ Fr Z.heap.size L ∧ h = h0
theorem pf7 : plainFor (⟨"java/lang/Math", "min", "(II)I"⟩ : MethodName) = true := by decide +kernel
theorem rm_min1 (l : Launch) (Z : State) (a0 : Array Value) (hw : HW a0 Z) (zC : Int32) (SC : tSC Z zC) (PC : ¬ zC = (0 : Int32)) (aE : Addr) (SE : tSE Z aE) (aD : Addr) (SD : tSD Z aD) (aM : Addr) (SM : tSM Z aM) (mO : Addr) (MO : tMO Z mO)  (h0 : Heap) (O0 : Old Z Z.heap.size h0)  :
    Con l Z (⟨"java/lang/Math", "min", "(II)I"⟩ : MethodName) jdk_29_method_69_code 2 (some .int) ({ frames := 0, cells := 0, slots := 0, locals := 0 } : Room) #[(.int (10 : Int32)), (.int (1 : Int32))] h0 (Q_min1 Z zC aE aD aM mO h0) := by
  refine Con.intro pf7 ?_
  intro p e s m below meth c T0 X0 hx hby hml hown0 hnm hret hlk hZ0 e0
  have N0 := Fr.nil Z.heap.size
  refine castGo (g' := mkF m 0 #[.val (.int (10 : Int32)), .val (.int (1 : Int32))] []) (by first | rfl | (simp [entryFrame, mkF, argsToLocals, Value.category]; done)) ?_
  show Go _ _ _ _ (T0.setTop (mkF m 0 #[.val (.int (10 : Int32)), .val (.int (1 : Int32))] []))
  refine iL X0 hx (hb hby d_jdk_29m69_0) (q := 1) rfl rfl ?_
  refine iL X0 hx (hb hby d_jdk_29m69_1) (q := 2) rfl rfl ?_
  refine icY X0 hx (hb hby d_jdk_29m69_2) (q := 9) (by decide) (by decide) (by decide) ?_
  refine iL X0 hx (hb hby d_jdk_29m69_9) (q := 10) rfl rfl ?_
  refine endP X0 hlk (fun h => by rw [hret] at h; cases h) (lastI X0 hx hret (hb hby d_jdk_29m69_10)) ?_ (by decide) (by decide)
  rw [e0]
  exact ⟨rfl, N0, rfl⟩
def Q_min2 (Z : State) (zC : Int32) (aE : Addr) (aD : Addr) (aM : Addr) (mO : Addr) (h0 : Heap) (v : Option Value) (h : Heap) (L : List Loc) : Prop := v = some (.int (2 : Int32)) ∧ Fr Z.heap.size L ∧ h = h0
theorem rm_min2 (l : Launch) (Z : State) (a0 : Array Value) (hw : HW a0 Z) (zC : Int32) (SC : tSC Z zC) (PC : ¬ zC = (0 : Int32)) (aE : Addr) (SE : tSE Z aE) (aD : Addr) (SD : tSD Z aD) (aM : Addr) (SM : tSM Z aM) (mO : Addr) (MO : tMO Z mO)  (h0 : Heap) (O0 : Old Z Z.heap.size h0)  :
    Con l Z (⟨"java/lang/Math", "min", "(II)I"⟩ : MethodName) jdk_29_method_69_code 2 (some .int) ({ frames := 0, cells := 0, slots := 0, locals := 0 } : Room) #[(.int (10 : Int32)), (.int (2 : Int32))] h0 (Q_min2 Z zC aE aD aM mO h0) := by
  refine Con.intro pf7 ?_
  intro p e s m below meth c T0 X0 hx hby hml hown0 hnm hret hlk hZ0 e0
  have N0 := Fr.nil Z.heap.size
  refine castGo (g' := mkF m 0 #[.val (.int (10 : Int32)), .val (.int (2 : Int32))] []) (by first | rfl | (simp [entryFrame, mkF, argsToLocals, Value.category]; done)) ?_
  show Go _ _ _ _ (T0.setTop (mkF m 0 #[.val (.int (10 : Int32)), .val (.int (2 : Int32))] []))
  refine iL X0 hx (hb hby d_jdk_29m69_0) (q := 1) rfl rfl ?_
  refine iL X0 hx (hb hby d_jdk_29m69_1) (q := 2) rfl rfl ?_
  refine icY X0 hx (hb hby d_jdk_29m69_2) (q := 9) (by decide) (by decide) (by decide) ?_
  refine iL X0 hx (hb hby d_jdk_29m69_9) (q := 10) rfl rfl ?_
  refine endP X0 hlk (fun h => by rw [hret] at h; cases h) (lastI X0 hx hret (hb hby d_jdk_29m69_10)) ?_ (by decide) (by decide)
  rw [e0]
  exact ⟨rfl, N0, rfl⟩
theorem d_jdk_38m6_0 : decode jdk_38_method_6_code 0 = .ok (.aload_n 0, 1) := by decide +kernel
theorem d_jdk_38m6_1 : decode jdk_38_method_6_code 1 = .ok (.getfield 9, 3) := by decide +kernel
theorem d_jdk_38m6_4 : decode jdk_38_method_6_code 4 = .ok (.arraylength, 1) := by decide +kernel
theorem d_jdk_38m6_5 : decode jdk_38_method_6_code 5 = .ok (.istore_n 2, 1) := by decide +kernel
theorem d_jdk_38m6_6 : decode jdk_38_method_6_code 6 = .ok (.iload_n 2, 1) := by decide +kernel
theorem d_jdk_38m6_7 : decode jdk_38_method_6_code 7 = .ok (.ifCond .gt 13, 3) := by decide +kernel
theorem d_jdk_38m6_10 : decode jdk_38_method_6_code 10 = .ok (.aload_n 0, 1) := by decide +kernel
theorem d_jdk_38m6_11 : decode jdk_38_method_6_code 11 = .ok (.getfield 9, 3) := by decide +kernel
theorem d_jdk_38m6_14 : decode jdk_38_method_6_code 14 = .ok (.getstatic 39, 3) := by decide +kernel
theorem d_jdk_38m6_17 : decode jdk_38_method_6_code 17 = .ok (.if_acmp .eq 28, 3) := by decide +kernel
theorem d_jdk_38m6_45 : decode jdk_38_method_6_code 45 = .ok (.aload_n 0, 1) := by decide +kernel
theorem d_jdk_38m6_46 : decode jdk_38_method_6_code 46 = .ok (.bipush 10, 2) := by decide +kernel
theorem d_jdk_38m6_48 : decode jdk_38_method_6_code 48 = .ok (.iload_n 1, 1) := by decide +kernel
theorem d_jdk_38m6_49 : decode jdk_38_method_6_code 49 = .ok (.invokestatic 79, 3) := by decide +kernel
theorem wd202 {a0 : Array Value} {Z : State} (hw : HW a0 Z) : ((Jvm.Cond.code ({ cls := "java/lang/Math", name := "max", desc := "(II)I" } : Jvm.MethodName) jdk_29_method_65_code (2 : Nat) (Option.some Jvm.ClassFile.FieldType.int)) : Jvm.Cond).before a0 Z = true := hw _ (List.mem_of_getElem? (i := 202) rfl)
theorem wd201 {a0 : Array Value} {Z : State} (hw : HW a0 Z) : ((Jvm.Cond.initialized "java/lang/Math") : Jvm.Cond).before a0 Z = true := hw _ (List.mem_of_getElem? (i := 201) rfl)
theorem pd1 : parseMethodDescriptor "(II)I" = some ⟨[.int, .int], some .int⟩ := by decide +kernel
theorem wd199 {a0 : Array Value} {Z : State} (hw : HW a0 Z) : ((Jvm.Cond.methodLink "java/util/ArrayList" (79 : Nat) ({ cls := "java/lang/Math", name := "max", desc := "(II)I" } : Jvm.MethodName)) : Jvm.Cond).before a0 Z = true := hw _ (List.mem_of_getElem? (i := 199) rfl)
theorem wd200 {a0 : Array Value} {Z : State} (hw : HW a0 Z) : ((Jvm.Cond.static ({ cls := "java/lang/Math", name := "max", desc := "(II)I" } : Jvm.MethodName)) : Jvm.Cond).before a0 Z = true := hw _ (List.mem_of_getElem? (i := 200) rfl)
theorem d_jdk_38m6_52 : decode jdk_38_method_6_code 52 = .ok (.anewarray 7, 3) := by decide +kernel
theorem wd203 {a0 : Array Value} {Z : State} (hw : HW a0 Z) : ((Jvm.Cond.classLink "java/util/ArrayList" (7 : Nat) "java/lang/Object") : Jvm.Cond).before a0 Z = true := hw _ (List.mem_of_getElem? (i := 203) rfl)
theorem wd204 {a0 : Array Value} {Z : State} (hw : HW a0 Z) : ((Jvm.Cond.arrayOver (Jvm.ClassFile.FieldType.object "java/lang/Object")) : Jvm.Cond).before a0 Z = true := hw _ (List.mem_of_getElem? (i := 204) rfl)
theorem d_jdk_38m6_55 : decode jdk_38_method_6_code 55 = .ok (.dup_x1, 1) := by decide +kernel
theorem d_jdk_38m6_56 : decode jdk_38_method_6_code 56 = .ok (.putfield 9, 3) := by decide +kernel
theorem d_jdk_38m6_59 : decode jdk_38_method_6_code 59 = .ok (.areturn, 1) := by decide +kernel
def Q_growI (Z : State) (zC : Int32) (aE : Addr) (aD : Addr) (aM : Addr) (mO : Addr) (a1 : Addr) (dK : ClassId) (dL : List Value) (mc : Int32) (h0 : Heap) (v : Option Value) (h : Heap) (L : List Loc) : Prop := ∃ (r : Addr), ∃ (kr : ClassId), v = some (.ref r) ∧ Fr Z.heap.size L ∧ Keep h0 h [a1] ∧ Exa Z h a1 "java/util/ArrayList" ∧ Fld Z h a1 "java/util/ArrayList" "size" "I" (.int (0 : Int32)) ∧ Fld Z h a1 "java/util/ArrayList" "elementData" "[Ljava/lang/Object;" (.ref r) ∧ h0.size ≤ r ∧ Arv Z h r kr (.object "java/lang/Object") (10 : Int32) [.null, .null, .null, .null, .null, .null, .null, .null, .null, .null] .null ∧ Exa Z h r "[Ljava/lang/Object;" ∧ Ovr Z kr "java/lang/Object" ∧ Fld Z h a1 "java/util/AbstractList" "modCount" "I" (.int mc)
theorem rm_growI (l : Launch) (Z : State) (a0 : Array Value) (hw : HW a0 Z) (zC : Int32) (SC : tSC Z zC) (PC : ¬ zC = (0 : Int32)) (aE : Addr) (SE : tSE Z aE) (aD : Addr) (SD : tSD Z aD) (aM : Addr) (SM : tSM Z aM) (mO : Addr) (MO : tMO Z mO) (a1 : Addr) (dK : ClassId) (dL : List Value) (mc : Int32) (h0 : Heap) (O0 : Old Z Z.heap.size h0) (P1 : Exa Z h0 a1 "java/util/ArrayList") (P2 : Fld Z h0 a1 "java/util/ArrayList" "size" "I" (.int (0 : Int32))) (P3 : Fld Z h0 a1 "java/util/ArrayList" "elementData" "[Ljava/lang/Object;" (.ref aD)) (P4 : Z.heap.size ≤ a1) (PD1 : Exa Z h0 aD "[Ljava/lang/Object;") (PD2 : Arv Z h0 aD dK (.object "java/lang/Object") (0 : Int32) dL .null) (Pmc : Fld Z h0 a1 "java/util/AbstractList" "modCount" "I" (.int mc)) :
    Con l Z (⟨"java/util/ArrayList", "grow", "(I)[Ljava/lang/Object;"⟩ : MethodName) jdk_38_method_6_code 4 (some (.array (.object "java/lang/Object"))) ({ frames := 1, cells := 1, slots := 10, locals := 14 } : Room) #[(.ref a1), (.int (1 : Int32))] h0 (Q_growI Z zC aE aD aM mO a1 dK dL mc h0) := by
  refine Con.intro (plainFor_of_name pn3) ?_
  intro p e s m below meth c T0 X0 hx hby hml hown0 hnm hret hlk hZ0 e0
  have N0 := Fr.nil Z.heap.size
  refine castGo (g' := mkF m 0 #[.val (.ref a1), .val (.int (1 : Int32)), .unset, .unset] []) (by first | rfl | (simp [entryFrame, mkF, argsToLocals, Value.category]; done)) ?_
  show Go _ _ _ _ (T0.setTop (mkF m 0 #[.val (.ref a1), .val (.int (1 : Int32)), .unset, .unset] []))
  refine aL X0 hx (hb hby d_jdk_38m6_0) (q := 1) rfl rfl rfl ?_
  refine g_getF X0 hx hZ0 hown0 (host := "") (Or.inl (wd70 hw)) Via.refl P3 e0 (hb hby d_jdk_38m6_1) (q := 4) rfl ?_
  intro T43 X43 e43
  refine g_len X43 hx hZ0 PD2 e43 (hb hby d_jdk_38m6_4) (q := 5) rfl ?_
  refine sI X43 hx (hb hby d_jdk_38m6_5) (q := 6) rfl (Ls' := #[.val (.ref a1), .val (.int (1 : Int32)), .val (.int (0 : Int32)), .unset]) rfl ?_
  refine iL X43 hx (hb hby d_jdk_38m6_6) (q := 7) rfl rfl ?_
  refine ifN X43 hx (hb hby d_jdk_38m6_7) (q := 10) rfl (by decide) ?_
  refine aL X43 hx (hb hby d_jdk_38m6_10) (q := 11) rfl rfl rfl ?_
  refine g_getF X43 hx hZ0 hown0 (host := "") (Or.inl (wd70 hw)) Via.refl P3 e43 (hb hby d_jdk_38m6_11) (q := 14) rfl ?_
  intro T44 X44 e44
  refine g_getS X44 hx hZ0 hown0 (host := "") (Or.inl (wd69 hw)) Via.refl (SD.ext O0.2) e44 (hb hby d_jdk_38m6_14) (q := 17) rfl ?_
  intro T45 X45 e45
  refine g_acmp X45 hx (hb hby d_jdk_38m6_17) (q := 45) rfl rfl (same := true) (decide_eq_true rfl) (by decide) (by decide) ?_
  refine aL X45 hx (hb hby d_jdk_38m6_45) (q := 46) rfl rfl rfl ?_
  refine bI X45 hx (hb hby d_jdk_38m6_46) (q := 48) rfl (z := (10 : Int32)) rfl ?_
  refine iL X45 hx (hb hby d_jdk_38m6_48) (q := 49) rfl rfl ?_
  refine g_st X45 hx hZ0 hown0 (wd199 hw) (wd200 hw) (wd201 hw) (wd202 hw) (by decide) e45 (Con.back (W := 1) (rm_max l Z a0 hw zC SC PC aE SE aD SD aM SM mO MO  h0 O0 ) hZ0 (wd202 hw) (wd201 hw) (by decide) (by decide)) (by rw [hml]; rfl) (lenOf pd1 rfl) rfl (Nat.le_of_eq rfl) (hb hby d_jdk_38m6_49) (q := 52) rfl (by decide) (by decide) ?_
  intro v46 T46 L46 X46 Q46
  obtain ⟨rfl, Nq46, e46⟩ := Q46
  have N46 := Fr.app N0 Nq46
  show Go _ _ _ _ (T46.setTop (mkF m 52 #[.val (.ref a1), .val (.int (1 : Int32)), .val (.int (0 : Int32)), .unset] [(.int (10 : Int32)), (.ref a1)]))
  refine g_newR X46 hx hZ0 hown0 (wd203 hw) (wd204 hw) (ad := "[Ljava/lang/Object;") (by decide) (by decide) (n := 10) (by decide) (by decide) (by decide) (by decide) e46 (hb hby d_jdk_38m6_52) (q := 55) rfl ?_
  intro T47 h47 k47 b47 g47 X47 e47 E47 V47 A47 O47
  have Va47 : Arv Z h47 b47 k47 (.object "java/lang/Object") (10 : Int32) [.null, .null, .null, .null, .null, .null, .null, .null, .null, .null] .null := V47
  refine g_dupX1 X47 hx (hb hby d_jdk_38m6_55) (q := 56) rfl rfl rfl ?_
  have f48 : Fld Z h47 a1 "java/util/ArrayList" "elementData" "[Ljava/lang/Object;" (.ref aD) := P3.ext E47
  have f49 : Exa Z h47 a1 "java/util/ArrayList" := P1.ext E47
  refine g_putF X47 hx hZ0 hown0 (host := "") (Or.inl (wd70 hw)) Via.refl f48 f49 (Or.inl (wd71 hw)) (wd49 hw) (ty := (.array (.object "java/lang/Object"))) (by decide) rfl rfl e47 (hb hby d_jdk_38m6_56) (q := 59) rfl ?_
  intro T50 h50 X50 e50 W50
  have N50 := Fr.snoc X50 N46 P4
  have Fw50 : Fld Z h50 a1 "java/util/ArrayList" "elementData" "[Ljava/lang/Object;" (.ref b47) := f48.same W50
  have K51 : Keep h0 h47 [a1] := (Keep.refl h0 [a1]).ext E47
  have K52 : Keep h0 h50 [a1] := K51.wr W50 (Or.inl (by simp))
  have f53 : Exa Z h50 a1 "java/util/ArrayList" := f49.wr W50
  have f54 : Fld Z h47 a1 "java/util/ArrayList" "size" "I" (.int (0 : Int32)) := P2.ext E47
  have f55 : Fld Z h50 a1 "java/util/ArrayList" "size" "I" (.int (0 : Int32)) := f54.other W50 (Or.inr (slot_ne (Or.inl (wd103 hw)) (Or.inl (wd71 hw)) (by decide) (t := .int) (t' := (.array (.object "java/lang/Object"))) (by decide) (by decide)))
  have gh56 : h0.size ≤ b47 := Nat.le_trans (Nat.le_refl _) (Nat.le_of_eq g47.symm)
  have ne57 : b47 ≠ a1 := (Nat.ne_of_gt (Nat.lt_of_lt_of_le (Nat.lt_of_lt_of_le P1.lt (Nat.le_refl _)) (Nat.le_of_eq g47.symm)))
  have f58 : Arv Z h50 b47 k47 (.object "java/lang/Object") (10 : Int32) [.null, .null, .null, .null, .null, .null, .null, .null, .null, .null] .null := Va47.other W50 ne57
  have f59 : Exa Z h50 b47 "[Ljava/lang/Object;" := A47.wr W50
  have f60 : Fld Z h47 a1 "java/util/AbstractList" "modCount" "I" (.int mc) := Pmc.ext E47
  have f61 : Fld Z h50 a1 "java/util/AbstractList" "modCount" "I" (.int mc) := f60.other W50 (Or.inr (slot_ne (Or.inl (wd68 hw)) (Or.inl (wd71 hw)) (by decide) (t := .int) (t' := (.array (.object "java/lang/Object"))) (by decide) (by decide)))
  refine endP X50 hlk (fun h => by rw [hret] at h; cases h) (lastA X50 hx hret rfl rfl rfl (hb hby d_jdk_38m6_59)) ?_ (by decide) (by decide)
  rw [e50]
  exact ⟨b47, k47, rfl, N50, K52, f53, f55, Fw50, gh56, f58, f59, O47, f61⟩
theorem d_jdk_38m7_0 : decode jdk_38_method_7_code 0 = .ok (.aload_n 0, 1) := by decide +kernel
theorem d_jdk_38m7_1 : decode jdk_38_method_7_code 1 = .ok (.aload_n 0, 1) := by decide +kernel
theorem d_jdk_38m7_2 : decode jdk_38_method_7_code 2 = .ok (.getfield 48, 3) := by decide +kernel
theorem wd102 {a0 : Array Value} {Z : State} (hw : HW a0 Z) : ((Jvm.Cond.fieldLink "java/util/ArrayList" (48 : Nat) "java/util/ArrayList" "size" "I") : Jvm.Cond).before a0 Z = true := hw _ (List.mem_of_getElem? (i := 102) rfl)
theorem d_jdk_38m7_5 : decode jdk_38_method_7_code 5 = .ok (.iconst 1, 1) := by decide +kernel
theorem d_jdk_38m7_6 : decode jdk_38_method_7_code 6 = .ok (.iadd, 1) := by decide +kernel
theorem d_jdk_38m7_7 : decode jdk_38_method_7_code 7 = .ok (.invokevirtual 69, 3) := by decide +kernel
theorem wd198 {a0 : Array Value} {Z : State} (hw : HW a0 Z) : ((Jvm.Cond.code ({ cls := "java/util/ArrayList", name := "grow", desc := "(I)[Ljava/lang/Object;" } : Jvm.MethodName) jdk_38_method_6_code (4 : Nat) (Option.some (Jvm.ClassFile.FieldType.array (Jvm.ClassFile.FieldType.object "java/lang/Object")))) : Jvm.Cond).before a0 Z = true := hw _ (List.mem_of_getElem? (i := 198) rfl)
theorem wd50 {a0 : Array Value} {Z : State} (hw : HW a0 Z) : ((Jvm.Cond.initialized "java/util/ArrayList") : Jvm.Cond).before a0 Z = true := hw _ (List.mem_of_getElem? (i := 50) rfl)
theorem pd2 : parseMethodDescriptor "(I)[Ljava/lang/Object;" = some ⟨[.int], some (.array (.object "java/lang/Object"))⟩ := by decide +kernel
theorem wd194 {a0 : Array Value} {Z : State} (hw : HW a0 Z) : ((Jvm.Cond.methodLink "java/util/ArrayList" (69 : Nat) ({ cls := "java/util/ArrayList", name := "grow", desc := "(I)[Ljava/lang/Object;" } : Jvm.MethodName)) : Jvm.Cond).before a0 Z = true := hw _ (List.mem_of_getElem? (i := 194) rfl)
theorem wd195 {a0 : Array Value} {Z : State} (hw : HW a0 Z) : ((Jvm.Cond.instanceMethod ({ cls := "java/util/ArrayList", name := "grow", desc := "(I)[Ljava/lang/Object;" } : Jvm.MethodName)) : Jvm.Cond).before a0 Z = true := hw _ (List.mem_of_getElem? (i := 195) rfl)
theorem wd197 {a0 : Array Value} {Z : State} (hw : HW a0 Z) : ((Jvm.Cond.selects "java/util/ArrayList" ({ cls := "java/util/ArrayList", name := "grow", desc := "(I)[Ljava/lang/Object;" } : Jvm.MethodName) ({ cls := "java/util/ArrayList", name := "grow", desc := "(I)[Ljava/lang/Object;" } : Jvm.MethodName)) : Jvm.Cond).before a0 Z = true := hw _ (List.mem_of_getElem? (i := 197) rfl)
theorem wd196 {a0 : Array Value} {Z : State} (hw : HW a0 Z) : ((Jvm.Cond.privateMethod ({ cls := "java/util/ArrayList", name := "grow", desc := "(I)[Ljava/lang/Object;" } : Jvm.MethodName)) : Jvm.Cond).before a0 Z = true := hw _ (List.mem_of_getElem? (i := 196) rfl)
theorem d_jdk_38m7_10 : decode jdk_38_method_7_code 10 = .ok (.areturn, 1) := by decide +kernel
def Q_grow (Z : State) (zC : Int32) (aE : Addr) (aD : Addr) (aM : Addr) (mO : Addr) (a1 : Addr) (dK : ClassId) (dL : List Value) (mc : Int32) (h0 : Heap) (v : Option Value) (h : Heap) (L : List Loc) : Prop := ∃ (r : Addr), ∃ (kr : ClassId), v = some (.ref r) ∧ Fr Z.heap.size L ∧ Keep h0 h [a1] ∧ Exa Z h a1 "java/util/ArrayList" ∧ Fld Z h a1 "java/util/ArrayList" "size" "I" (.int (0 : Int32)) ∧ Fld Z h a1 "java/util/ArrayList" "elementData" "[Ljava/lang/Object;" (.ref r) ∧ h0.size ≤ r ∧ Arv Z h r kr (.object "java/lang/Object") (10 : Int32) [.null, .null, .null, .null, .null, .null, .null, .null, .null, .null] .null ∧ Exa Z h r "[Ljava/lang/Object;" ∧ Ovr Z kr "java/lang/Object" ∧ Fld Z h a1 "java/util/AbstractList" "modCount" "I" (.int mc)
theorem rm_grow (l : Launch) (Z : State) (a0 : Array Value) (hw : HW a0 Z) (zC : Int32) (SC : tSC Z zC) (PC : ¬ zC = (0 : Int32)) (aE : Addr) (SE : tSE Z aE) (aD : Addr) (SD : tSD Z aD) (aM : Addr) (SM : tSM Z aM) (mO : Addr) (MO : tMO Z mO) (a1 : Addr) (dK : ClassId) (dL : List Value) (mc : Int32) (h0 : Heap) (O0 : Old Z Z.heap.size h0) (P1 : Exa Z h0 a1 "java/util/ArrayList") (P2 : Fld Z h0 a1 "java/util/ArrayList" "size" "I" (.int (0 : Int32))) (P3 : Fld Z h0 a1 "java/util/ArrayList" "elementData" "[Ljava/lang/Object;" (.ref aD)) (P4 : Z.heap.size ≤ a1) (PD1 : Exa Z h0 aD "[Ljava/lang/Object;") (PD2 : Arv Z h0 aD dK (.object "java/lang/Object") (0 : Int32) dL .null) (Pmc : Fld Z h0 a1 "java/util/AbstractList" "modCount" "I" (.int mc)) :
    Con l Z (⟨"java/util/ArrayList", "grow", "()[Ljava/lang/Object;"⟩ : MethodName) jdk_38_method_7_code 1 (some (.array (.object "java/lang/Object"))) ({ frames := 2, cells := 1, slots := 10, locals := 29 } : Room) #[(.ref a1)] h0 (Q_grow Z zC aE aD aM mO a1 dK dL mc h0) := by
  refine Con.intro (plainFor_of_name pn3) ?_
  intro p e s m below meth c T0 X0 hx hby hml hown0 hnm hret hlk hZ0 e0
  have N0 := Fr.nil Z.heap.size
  refine castGo (g' := mkF m 0 #[.val (.ref a1)] []) (by first | rfl | (simp [entryFrame, mkF, argsToLocals, Value.category]; done)) ?_
  show Go _ _ _ _ (T0.setTop (mkF m 0 #[.val (.ref a1)] []))
  refine aL X0 hx (hb hby d_jdk_38m7_0) (q := 1) rfl rfl rfl ?_
  refine aL X0 hx (hb hby d_jdk_38m7_1) (q := 2) rfl rfl rfl ?_
  refine g_getF X0 hx hZ0 hown0 (host := "") (Or.inl (wd102 hw)) Via.refl P2 e0 (hb hby d_jdk_38m7_2) (q := 5) rfl ?_
  intro T62 X62 e62
  refine cI X62 hx (hb hby d_jdk_38m7_5) (q := 6) rfl (z := (1 : Int32)) rfl ?_
  refine g_iadd X62 hx (hb hby d_jdk_38m7_6) (q := 7) rfl (z := (1 : Int32)) (by decide) ?_
  refine g_pv X62 hx hZ0 hown0 (wd194 hw) (wd195 hw) (wd197 hw) (wd196 hw) (wd198 hw) (by decide) P1 e62 (Con.back (W := 0) (rm_growI l Z a0 hw zC SC PC aE SE aD SD aM SM mO MO a1 dK dL mc h0 O0 P1 P2 P3 P4 PD1 PD2 Pmc) hZ0 (wd198 hw) (wd50 hw) (by decide) (by decide)) (by rw [hml]; rfl) (lenOf pd2 rfl) rfl (Nat.le_of_eq rfl) (hb hby d_jdk_38m7_7) (q := 10) rfl (by decide) (by decide) ?_
  intro v63 T63 L63 X63 Q63
  obtain ⟨r_63, kr_63, rfl, Nq63, K63q, q63_0, q63_1, q63_2, q63_3, q63_4, q63_5, q63_6, q63_7⟩ := Q63
  have N63 := Fr.app N0 Nq63
  show Go _ _ _ _ (T63.setTop (mkF m 10 #[.val (.ref a1)] [(.ref r_63)]))
  have K64 : Keep h0 T63.heap [a1] := (Keep.refl h0 [a1]).trans K63q (allS (Or.inl (by simp)) all0)
  have gh65 : h0.size ≤ r_63 := Nat.le_trans (Nat.le_refl _) q63_3
  refine endP X63 hlk (fun h => by rw [hret] at h; cases h) (lastA X63 hx hret rfl rfl rfl (hb hby d_jdk_38m7_10)) ?_ (by decide) (by decide)
  exact ⟨r_63, kr_63, rfl, N63, K64, q63_0, q63_1, q63_2, gh65, q63_4, q63_5, q63_6, q63_7⟩
theorem d_jdk_38m24_0 : decode jdk_38_method_24_code 0 = .ok (.iload_n 3, 1) := by decide +kernel
theorem d_jdk_38m24_1 : decode jdk_38_method_24_code 1 = .ok (.aload_n 2, 1) := by decide +kernel
theorem d_jdk_38m24_2 : decode jdk_38_method_24_code 2 = .ok (.arraylength, 1) := by decide +kernel
theorem d_jdk_38m24_3 : decode jdk_38_method_24_code 3 = .ok (.if_icmp .ne 8, 3) := by decide +kernel
theorem d_jdk_38m24_6 : decode jdk_38_method_24_code 6 = .ok (.aload_n 0, 1) := by decide +kernel
theorem d_jdk_38m24_7 : decode jdk_38_method_24_code 7 = .ok (.invokevirtual 129, 3) := by decide +kernel
theorem wd193 {a0 : Array Value} {Z : State} (hw : HW a0 Z) : ((Jvm.Cond.code ({ cls := "java/util/ArrayList", name := "grow", desc := "()[Ljava/lang/Object;" } : Jvm.MethodName) jdk_38_method_7_code (1 : Nat) (Option.some (Jvm.ClassFile.FieldType.array (Jvm.ClassFile.FieldType.object "java/lang/Object")))) : Jvm.Cond).before a0 Z = true := hw _ (List.mem_of_getElem? (i := 193) rfl)
theorem pd3 : parseMethodDescriptor "()[Ljava/lang/Object;" = some ⟨[], some (.array (.object "java/lang/Object"))⟩ := by decide +kernel
theorem wd189 {a0 : Array Value} {Z : State} (hw : HW a0 Z) : ((Jvm.Cond.methodLink "java/util/ArrayList" (129 : Nat) ({ cls := "java/util/ArrayList", name := "grow", desc := "()[Ljava/lang/Object;" } : Jvm.MethodName)) : Jvm.Cond).before a0 Z = true := hw _ (List.mem_of_getElem? (i := 189) rfl)
theorem wd190 {a0 : Array Value} {Z : State} (hw : HW a0 Z) : ((Jvm.Cond.instanceMethod ({ cls := "java/util/ArrayList", name := "grow", desc := "()[Ljava/lang/Object;" } : Jvm.MethodName)) : Jvm.Cond).before a0 Z = true := hw _ (List.mem_of_getElem? (i := 190) rfl)
theorem wd192 {a0 : Array Value} {Z : State} (hw : HW a0 Z) : ((Jvm.Cond.selects "java/util/ArrayList" ({ cls := "java/util/ArrayList", name := "grow", desc := "()[Ljava/lang/Object;" } : Jvm.MethodName) ({ cls := "java/util/ArrayList", name := "grow", desc := "()[Ljava/lang/Object;" } : Jvm.MethodName)) : Jvm.Cond).before a0 Z = true := hw _ (List.mem_of_getElem? (i := 192) rfl)
theorem wd191 {a0 : Array Value} {Z : State} (hw : HW a0 Z) : ((Jvm.Cond.privateMethod ({ cls := "java/util/ArrayList", name := "grow", desc := "()[Ljava/lang/Object;" } : Jvm.MethodName)) : Jvm.Cond).before a0 Z = true := hw _ (List.mem_of_getElem? (i := 191) rfl)
theorem d_jdk_38m24_10 : decode jdk_38_method_24_code 10 = .ok (.astore_n 2, 1) := by decide +kernel
theorem d_jdk_38m24_11 : decode jdk_38_method_24_code 11 = .ok (.aload_n 2, 1) := by decide +kernel
theorem d_jdk_38m24_12 : decode jdk_38_method_24_code 12 = .ok (.iload_n 3, 1) := by decide +kernel
theorem d_jdk_38m24_13 : decode jdk_38_method_24_code 13 = .ok (.aload_n 1, 1) := by decide +kernel
theorem d_jdk_38m24_14 : decode jdk_38_method_24_code 14 = .ok (.aastore, 1) := by decide +kernel
theorem wd205 {a0 : Array Value} {Z : State} (hw : HW a0 Z) : ((Jvm.Cond.castable "com/example/quaymark/quaymark/Review$LeftOut" "java/lang/Object") : Jvm.Cond).before a0 Z = true := hw _ (List.mem_of_getElem? (i := 205) rfl)
theorem d_jdk_38m24_15 : decode jdk_38_method_24_code 15 = .ok (.aload_n 0, 1) := by decide +kernel
theorem d_jdk_38m24_16 : decode jdk_38_method_24_code 16 = .ok (.iload_n 3, 1) := by decide +kernel
theorem d_jdk_38m24_17 : decode jdk_38_method_24_code 17 = .ok (.iconst 1, 1) := by decide +kernel
theorem d_jdk_38m24_18 : decode jdk_38_method_24_code 18 = .ok (.iadd, 1) := by decide +kernel
theorem d_jdk_38m24_19 : decode jdk_38_method_24_code 19 = .ok (.putfield 48, 3) := by decide +kernel
theorem d_jdk_38m24_22 : decode jdk_38_method_24_code 22 = .ok (.return_, 1) := by decide +kernel
def Q_add3a (Z : State) (zC : Int32) (aE : Addr) (aD : Addr) (aM : Addr) (mO : Addr) (a1 : Addr) (a2 : Addr) (dK : ClassId) (dL : List Value) (mc : Int32) (h0 : Heap) (v : Option Value) (h : Heap) (L : List Loc) : Prop := ∃ (r : Addr), ∃ (kr : ClassId), v = none ∧ Fr Z.heap.size L ∧ Keep h0 h [a1] ∧ Exa Z h a1 "java/util/ArrayList" ∧ Fld Z h a1 "java/util/ArrayList" "size" "I" (.int (1 : Int32)) ∧ Fld Z h a1 "java/util/ArrayList" "elementData" "[Ljava/lang/Object;" (.ref r) ∧ h0.size ≤ r ∧ Arv Z h r kr (.object "java/lang/Object") (10 : Int32) [(.ref a2), .null, .null, .null, .null, .null, .null, .null, .null, .null] .null ∧ Exa Z h r "[Ljava/lang/Object;" ∧ Ovr Z kr "java/lang/Object" ∧ Fld Z h a1 "java/util/AbstractList" "modCount" "I" (.int mc)
theorem rm_add3a (l : Launch) (Z : State) (a0 : Array Value) (hw : HW a0 Z) (zC : Int32) (SC : tSC Z zC) (PC : ¬ zC = (0 : Int32)) (aE : Addr) (SE : tSE Z aE) (aD : Addr) (SD : tSD Z aD) (aM : Addr) (SM : tSM Z aM) (mO : Addr) (MO : tMO Z mO) (a1 : Addr) (a2 : Addr) (dK : ClassId) (dL : List Value) (mc : Int32) (h0 : Heap) (O0 : Old Z Z.heap.size h0) (P1 : Exa Z h0 a1 "java/util/ArrayList") (P2 : Fld Z h0 a1 "java/util/ArrayList" "size" "I" (.int (0 : Int32))) (P3 : Fld Z h0 a1 "java/util/ArrayList" "elementData" "[Ljava/lang/Object;" (.ref aD)) (P4 : Z.heap.size ≤ a1) (PD1 : Exa Z h0 aD "[Ljava/lang/Object;") (PD2 : Arv Z h0 aD dK (.object "java/lang/Object") (0 : Int32) dL .null) (Pmc : Fld Z h0 a1 "java/util/AbstractList" "modCount" "I" (.int mc)) (P6 : Exa Z h0 a2 "com/example/quaymark/quaymark/Review$LeftOut") :
    Con l Z (⟨"java/util/ArrayList", "add", "(Ljava/lang/Object;[Ljava/lang/Object;I)V"⟩ : MethodName) jdk_38_method_24_code 4 none ({ frames := 3, cells := 1, slots := 10, locals := 41 } : Room) #[(.ref a1), (.ref a2), (.ref aD), (.int (0 : Int32))] h0 (Q_add3a Z zC aE aD aM mO a1 a2 dK dL mc h0) := by
  refine Con.intro (plainFor_of_name pn3) ?_
  intro p e s m below meth c T0 X0 hx hby hml hown0 hnm hret hlk hZ0 e0
  have N0 := Fr.nil Z.heap.size
  refine castGo (g' := mkF m 0 #[.val (.ref a1), .val (.ref a2), .val (.ref aD), .val (.int (0 : Int32))] []) (by first | rfl | (simp [entryFrame, mkF, argsToLocals, Value.category]; done)) ?_
  show Go _ _ _ _ (T0.setTop (mkF m 0 #[.val (.ref a1), .val (.ref a2), .val (.ref aD), .val (.int (0 : Int32))] []))
  refine iL X0 hx (hb hby d_jdk_38m24_0) (q := 1) rfl rfl ?_
  refine aL X0 hx (hb hby d_jdk_38m24_1) (q := 2) rfl rfl rfl ?_
  refine g_len X0 hx hZ0 PD2 e0 (hb hby d_jdk_38m24_2) (q := 3) rfl ?_
  refine icN X0 hx (hb hby d_jdk_38m24_3) (q := 6) rfl (by decide) ?_
  refine aL X0 hx (hb hby d_jdk_38m24_6) (q := 7) rfl rfl rfl ?_
  refine g_pv X0 hx hZ0 hown0 (wd189 hw) (wd190 hw) (wd192 hw) (wd191 hw) (wd193 hw) (by decide) P1 e0 (Con.back (W := 0) (rm_grow l Z a0 hw zC SC PC aE SE aD SD aM SM mO MO a1 dK dL mc h0 O0 P1 P2 P3 P4 PD1 PD2 Pmc) hZ0 (wd193 hw) (wd50 hw) (by decide) (by decide)) (by rw [hml]; rfl) (lenOf pd3 rfl) rfl (Nat.le_of_eq rfl) (hb hby d_jdk_38m24_7) (q := 10) rfl (by decide) (by decide) ?_
  intro v66 T66 L66 X66 Q66
  obtain ⟨r_66, kr_66, rfl, Nq66, K66q, q66_0, q66_1, q66_2, q66_3, q66_4, q66_5, q66_6, q66_7⟩ := Q66
  have N66 := Fr.app N0 Nq66
  show Go _ _ _ _ (T66.setTop (mkF m 10 #[.val (.ref a1), .val (.ref a2), .val (.ref aD), .val (.int (0 : Int32))] [(.ref r_66)]))
  refine sA X66 hx (hb hby d_jdk_38m24_10) (q := 11) rfl rfl (Ls' := #[.val (.ref a1), .val (.ref a2), .val (.ref r_66), .val (.int (0 : Int32))]) rfl ?_
  refine aL X66 hx (hb hby d_jdk_38m24_11) (q := 12) rfl rfl rfl ?_
  refine iL X66 hx (hb hby d_jdk_38m24_12) (q := 13) rfl rfl ?_
  refine aL X66 hx (hb hby d_jdk_38m24_13) (q := 14) rfl rfl rfl ?_
  have gz68 : Z.heap.size ≤ r_66 := Nat.le_trans O0.2.1 q66_3
  have f69 : Exa Z T66.heap a2 "com/example/quaymark/quaymark/Review$LeftOut" := P6.keep K66q
  refine g_stR X66 hx hZ0 q66_4 rfl (sto_arv q66_4 q66_6 (Ins.of_exa f69 (wd205 hw))) rfl (i := 0) (by decide) (by decide) (by decide) (Nat.le_of_ble_eq_true rfl) rfl (hb hby d_jdk_38m24_14) (q := 15) rfl ?_
  intro T67 h67 X67 e67 W67 V67
  have N67 := Fr.snoc X67 N66 gz68
  have Va67 : Arv Z h67 r_66 kr_66 (.object "java/lang/Object") (10 : Int32) [(.ref a2), .null, .null, .null, .null, .null, .null, .null, .null, .null] .null := V67
  refine aL X67 hx (hb hby d_jdk_38m24_15) (q := 16) rfl rfl rfl ?_
  refine iL X67 hx (hb hby d_jdk_38m24_16) (q := 17) rfl rfl ?_
  refine cI X67 hx (hb hby d_jdk_38m24_17) (q := 18) rfl (z := (1 : Int32)) rfl ?_
  refine g_iadd X67 hx (hb hby d_jdk_38m24_18) (q := 19) rfl (z := (1 : Int32)) (by decide) ?_
  have ne70 : a1 ≠ r_66 := (Nat.ne_of_lt (Nat.lt_of_lt_of_le (Nat.lt_of_lt_of_le P1.lt (Nat.le_refl _)) q66_3))
  have f71 : Fld Z h67 a1 "java/util/ArrayList" "size" "I" (.int (0 : Int32)) := q66_1.other W67 (Or.inl ne70)
  have f72 : Exa Z h67 a1 "java/util/ArrayList" := q66_0.wr W67
  refine g_putF X67 hx hZ0 hown0 (host := "") (Or.inl (wd102 hw)) Via.refl f71 f72 (Or.inl (wd103 hw)) (wd49 hw) (ty := .int) (by decide) rfl rfl e67 (hb hby d_jdk_38m24_19) (q := 22) rfl ?_
  intro T73 h73 X73 e73 W73
  have N73 := Fr.snoc X73 N67 P4
  have Fw73 : Fld Z h73 a1 "java/util/ArrayList" "size" "I" (.int (1 : Int32)) := f71.same W73
  have K74 : Keep h0 T66.heap [a1] := (Keep.refl h0 [a1]).trans K66q (allS (Or.inl (by simp)) all0)
  have gh75 : h0.size ≤ r_66 := Nat.le_trans (Nat.le_refl _) q66_3
  have K76 : Keep h0 h67 [a1] := K74.wr W67 (Or.inr gh75)
  have K77 : Keep h0 h73 [a1] := K76.wr W73 (Or.inl (by simp))
  have f78 : Exa Z h73 a1 "java/util/ArrayList" := f72.wr W73
  have f79 : Fld Z h67 a1 "java/util/ArrayList" "elementData" "[Ljava/lang/Object;" (.ref r_66) := q66_2.other W67 (Or.inl ne70)
  have f80 : Fld Z h73 a1 "java/util/ArrayList" "elementData" "[Ljava/lang/Object;" (.ref r_66) := f79.other W73 (Or.inr (slot_ne (Or.inl (wd71 hw)) (Or.inl (wd103 hw)) (by decide) (t := (.array (.object "java/lang/Object"))) (t' := .int) (by decide) (by decide)))
  have ne81 : r_66 ≠ a1 := (Ne.symm ne70)
  have f82 : Arv Z h73 r_66 kr_66 (.object "java/lang/Object") (10 : Int32) [(.ref a2), .null, .null, .null, .null, .null, .null, .null, .null, .null] .null := Va67.other W73 ne81
  have f83 : Exa Z h67 r_66 "[Ljava/lang/Object;" := q66_5.wr W67
  have f84 : Exa Z h73 r_66 "[Ljava/lang/Object;" := f83.wr W73
  have f85 : Fld Z h67 a1 "java/util/AbstractList" "modCount" "I" (.int mc) := q66_7.other W67 (Or.inl ne70)
  have f86 : Fld Z h73 a1 "java/util/AbstractList" "modCount" "I" (.int mc) := f85.other W73 (Or.inr (slot_ne (Or.inl (wd68 hw)) (Or.inl (wd103 hw)) (by decide) (t := .int) (t' := .int) (by decide) (by decide)))
  refine endP X73 hlk (fun _ => rfl) (lastV X73 hx hret (hb hby d_jdk_38m24_22)) ?_ (by decide) (by decide)
  rw [e73]
  exact ⟨r_66, kr_66, rfl, N73, K77, f78, Fw73, f80, gh75, f82, f84, q66_6, f86⟩
theorem d_jdk_38m25_0 : decode jdk_38_method_25_code 0 = .ok (.aload_n 0, 1) := by decide +kernel
theorem d_jdk_38m25_1 : decode jdk_38_method_25_code 1 = .ok (.dup, 1) := by decide +kernel
theorem d_jdk_38m25_2 : decode jdk_38_method_25_code 2 = .ok (.getfield 63, 3) := by decide +kernel
theorem wd182 {a0 : Array Value} {Z : State} (hw : HW a0 Z) : ((Jvm.Cond.fieldLink "java/util/ArrayList" (63 : Nat) "java/util/ArrayList" "modCount" "I") : Jvm.Cond).before a0 Z = true := hw _ (List.mem_of_getElem? (i := 182) rfl)
theorem wd183 {a0 : Array Value} {Z : State} (hw : HW a0 Z) : ((Jvm.Cond.sameField "java/util/ArrayList" "java/util/AbstractList" "modCount" "I") : Jvm.Cond).before a0 Z = true := hw _ (List.mem_of_getElem? (i := 183) rfl)
theorem d_jdk_38m25_5 : decode jdk_38_method_25_code 5 = .ok (.iconst 1, 1) := by decide +kernel
theorem d_jdk_38m25_6 : decode jdk_38_method_25_code 6 = .ok (.iadd, 1) := by decide +kernel
theorem d_jdk_38m25_7 : decode jdk_38_method_25_code 7 = .ok (.putfield 63, 3) := by decide +kernel
theorem d_jdk_38m25_10 : decode jdk_38_method_25_code 10 = .ok (.aload_n 0, 1) := by decide +kernel
theorem d_jdk_38m25_11 : decode jdk_38_method_25_code 11 = .ok (.aload_n 1, 1) := by decide +kernel
theorem d_jdk_38m25_12 : decode jdk_38_method_25_code 12 = .ok (.aload_n 0, 1) := by decide +kernel
theorem d_jdk_38m25_13 : decode jdk_38_method_25_code 13 = .ok (.getfield 9, 3) := by decide +kernel
theorem d_jdk_38m25_16 : decode jdk_38_method_25_code 16 = .ok (.aload_n 0, 1) := by decide +kernel
theorem d_jdk_38m25_17 : decode jdk_38_method_25_code 17 = .ok (.getfield 48, 3) := by decide +kernel
theorem d_jdk_38m25_20 : decode jdk_38_method_25_code 20 = .ok (.invokevirtual 131, 3) := by decide +kernel
theorem wd188 {a0 : Array Value} {Z : State} (hw : HW a0 Z) : ((Jvm.Cond.code ({ cls := "java/util/ArrayList", name := "add", desc := "(Ljava/lang/Object;[Ljava/lang/Object;I)V" } : Jvm.MethodName) jdk_38_method_24_code (4 : Nat) (Option.none : Option Jvm.ClassFile.FieldType)) : Jvm.Cond).before a0 Z = true := hw _ (List.mem_of_getElem? (i := 188) rfl)
theorem pd4 : parseMethodDescriptor "(Ljava/lang/Object;[Ljava/lang/Object;I)V" = some ⟨[(.object "java/lang/Object"), (.array (.object "java/lang/Object")), .int], none⟩ := by decide +kernel
theorem wd184 {a0 : Array Value} {Z : State} (hw : HW a0 Z) : ((Jvm.Cond.methodLink "java/util/ArrayList" (131 : Nat) ({ cls := "java/util/ArrayList", name := "add", desc := "(Ljava/lang/Object;[Ljava/lang/Object;I)V" } : Jvm.MethodName)) : Jvm.Cond).before a0 Z = true := hw _ (List.mem_of_getElem? (i := 184) rfl)
theorem wd185 {a0 : Array Value} {Z : State} (hw : HW a0 Z) : ((Jvm.Cond.instanceMethod ({ cls := "java/util/ArrayList", name := "add", desc := "(Ljava/lang/Object;[Ljava/lang/Object;I)V" } : Jvm.MethodName)) : Jvm.Cond).before a0 Z = true := hw _ (List.mem_of_getElem? (i := 185) rfl)
theorem wd187 {a0 : Array Value} {Z : State} (hw : HW a0 Z) : ((Jvm.Cond.selects "java/util/ArrayList" ({ cls := "java/util/ArrayList", name := "add", desc := "(Ljava/lang/Object;[Ljava/lang/Object;I)V" } : Jvm.MethodName) ({ cls := "java/util/ArrayList", name := "add", desc := "(Ljava/lang/Object;[Ljava/lang/Object;I)V" } : Jvm.MethodName)) : Jvm.Cond).before a0 Z = true := hw _ (List.mem_of_getElem? (i := 187) rfl)
theorem wd186 {a0 : Array Value} {Z : State} (hw : HW a0 Z) : ((Jvm.Cond.privateMethod ({ cls := "java/util/ArrayList", name := "add", desc := "(Ljava/lang/Object;[Ljava/lang/Object;I)V" } : Jvm.MethodName)) : Jvm.Cond).before a0 Z = true := hw _ (List.mem_of_getElem? (i := 186) rfl)
theorem d_jdk_38m25_23 : decode jdk_38_method_25_code 23 = .ok (.iconst 1, 1) := by decide +kernel
theorem d_jdk_38m25_24 : decode jdk_38_method_25_code 24 = .ok (.ireturn, 1) := by decide +kernel
def Q_add1a (Z : State) (zC : Int32) (aE : Addr) (aD : Addr) (aM : Addr) (mO : Addr) (a1 : Addr) (a2 : Addr) (dK : ClassId) (dL : List Value) (h0 : Heap) (v : Option Value) (h : Heap) (L : List Loc) : Prop := ∃ (r : Addr), ∃ (kr : ClassId), v = some (.int (1 : Int32)) ∧ Fr Z.heap.size L ∧ Keep h0 h [a1] ∧ Exa Z h a1 "java/util/ArrayList" ∧ Fld Z h a1 "java/util/ArrayList" "size" "I" (.int (1 : Int32)) ∧ Fld Z h a1 "java/util/ArrayList" "elementData" "[Ljava/lang/Object;" (.ref r) ∧ h0.size ≤ r ∧ Arv Z h r kr (.object "java/lang/Object") (10 : Int32) [(.ref a2), .null, .null, .null, .null, .null, .null, .null, .null, .null] .null ∧ Exa Z h r "[Ljava/lang/Object;" ∧ Ovr Z kr "java/lang/Object" ∧ Fld Z h a1 "java/util/AbstractList" "modCount" "I" (.int (1 : Int32))
theorem rm_add1a (l : Launch) (Z : State) (a0 : Array Value) (hw : HW a0 Z) (zC : Int32) (SC : tSC Z zC) (PC : ¬ zC = (0 : Int32)) (aE : Addr) (SE : tSE Z aE) (aD : Addr) (SD : tSD Z aD) (aM : Addr) (SM : tSM Z aM) (mO : Addr) (MO : tMO Z mO) (a1 : Addr) (a2 : Addr) (dK : ClassId) (dL : List Value) (h0 : Heap) (O0 : Old Z Z.heap.size h0) (P1 : Exa Z h0 a1 "java/util/ArrayList") (P2 : Fld Z h0 a1 "java/util/ArrayList" "size" "I" (.int (0 : Int32))) (P3 : Fld Z h0 a1 "java/util/ArrayList" "elementData" "[Ljava/lang/Object;" (.ref aD)) (P4 : Z.heap.size ≤ a1) (PD1 : Exa Z h0 aD "[Ljava/lang/Object;") (PD2 : Arv Z h0 aD dK (.object "java/lang/Object") (0 : Int32) dL .null) (P6 : Exa Z h0 a2 "com/example/quaymark/quaymark/Review$LeftOut") (P7 : Fld Z h0 a1 "java/util/AbstractList" "modCount" "I" (.int (0 : Int32))) :
    Con l Z (⟨"java/util/ArrayList", "add", "(Ljava/lang/Object;)Z"⟩ : MethodName) jdk_38_method_25_code 2 (some .boolean) ({ frames := 4, cells := 1, slots := 10, locals := 56 } : Room) #[(.ref a1), (.ref a2)] h0 (Q_add1a Z zC aE aD aM mO a1 a2 dK dL h0) := by
  refine Con.intro (plainFor_of_name pn3) ?_
  intro p e s m below meth c T0 X0 hx hby hml hown0 hnm hret hlk hZ0 e0
  have N0 := Fr.nil Z.heap.size
  refine castGo (g' := mkF m 0 #[.val (.ref a1), .val (.ref a2)] []) (by first | rfl | (simp [entryFrame, mkF, argsToLocals, Value.category]; done)) ?_
  show Go _ _ _ _ (T0.setTop (mkF m 0 #[.val (.ref a1), .val (.ref a2)] []))
  refine aL X0 hx (hb hby d_jdk_38m25_0) (q := 1) rfl rfl rfl ?_
  refine g_dup X0 hx (hb hby d_jdk_38m25_1) (q := 2) rfl rfl ?_
  refine g_getF X0 hx hZ0 hown0 (host := "") (Or.inl (wd182 hw)) (Via.of (wd183 hw)) P7 e0 (hb hby d_jdk_38m25_2) (q := 5) rfl ?_
  intro T87 X87 e87
  refine cI X87 hx (hb hby d_jdk_38m25_5) (q := 6) rfl (z := (1 : Int32)) rfl ?_
  refine g_iadd X87 hx (hb hby d_jdk_38m25_6) (q := 7) rfl (z := (1 : Int32)) (by decide) ?_
  refine g_putF X87 hx hZ0 hown0 (host := "") (Or.inl (wd182 hw)) (Via.of (wd183 hw)) P7 P1 (Or.inl (wd68 hw)) (wd49 hw) (ty := .int) (by decide) rfl rfl e87 (hb hby d_jdk_38m25_7) (q := 10) rfl ?_
  intro T88 h88 X88 e88 W88
  have N88 := Fr.snoc X88 N0 P4
  have Fw88 : Fld Z h88 a1 "java/util/AbstractList" "modCount" "I" (.int (1 : Int32)) := P7.same W88
  refine aL X88 hx (hb hby d_jdk_38m25_10) (q := 11) rfl rfl rfl ?_
  refine aL X88 hx (hb hby d_jdk_38m25_11) (q := 12) rfl rfl rfl ?_
  refine aL X88 hx (hb hby d_jdk_38m25_12) (q := 13) rfl rfl rfl ?_
  have f89 : Fld Z h88 a1 "java/util/ArrayList" "elementData" "[Ljava/lang/Object;" (.ref aD) := P3.other W88 (Or.inr (slot_ne (Or.inl (wd71 hw)) (Or.inl (wd68 hw)) (by decide) (t := (.array (.object "java/lang/Object"))) (t' := .int) (by decide) (by decide)))
  refine g_getF X88 hx hZ0 hown0 (host := "") (Or.inl (wd70 hw)) Via.refl f89 e88 (hb hby d_jdk_38m25_13) (q := 16) rfl ?_
  intro T90 X90 e90
  refine aL X90 hx (hb hby d_jdk_38m25_16) (q := 17) rfl rfl rfl ?_
  have f91 : Fld Z h88 a1 "java/util/ArrayList" "size" "I" (.int (0 : Int32)) := P2.other W88 (Or.inr (slot_ne (Or.inl (wd103 hw)) (Or.inl (wd68 hw)) (by decide) (t := .int) (t' := .int) (by decide) (by decide)))
  refine g_getF X90 hx hZ0 hown0 (host := "") (Or.inl (wd102 hw)) Via.refl f91 e90 (hb hby d_jdk_38m25_17) (q := 20) rfl ?_
  intro T92 X92 e92
  have f99 : Exa Z h88 a1 "java/util/ArrayList" := P1.wr W88
  have f100 : Exa Z h88 aD "[Ljava/lang/Object;" := PD1.wr W88
  have ne101 : aD ≠ a1 := (ne_exa PD1 P1 (by decide))
  have f102 : Arv Z h88 aD dK (.object "java/lang/Object") (0 : Int32) dL .null := PD2.other W88 ne101
  have f103 : Exa Z h88 a2 "com/example/quaymark/quaymark/Review$LeftOut" := P6.wr W88
  have f104 : Old Z Z.heap.size h88 := O0.wr W88 P4
  refine g_pv X92 hx hZ0 hown0 (wd184 hw) (wd185 hw) (wd187 hw) (wd186 hw) (wd188 hw) (by decide) f99 e92 (Con.back (W := 0) (rm_add3a l Z a0 hw zC SC PC aE SE aD SD aM SM mO MO a1 a2 dK dL (1 : Int32) h88 f104 f99 f91 f89 P4 f100 f102 Fw88 f103) hZ0 (wd188 hw) (wd50 hw) (by decide) (by decide)) (by rw [hml]; rfl) (lenOf pd4 rfl) rfl (Nat.le_of_eq rfl) (hb hby d_jdk_38m25_20) (q := 23) rfl (by decide) (by decide) ?_
  intro v98 T98 L98 X98 Q98
  obtain ⟨r_98, kr_98, rfl, Nq98, K98q, q98_0, q98_1, q98_2, q98_3, q98_4, q98_5, q98_6, q98_7⟩ := Q98
  have N98 := Fr.app N88 Nq98
  show Go _ _ _ _ (T98.setTop (mkF m 23 #[.val (.ref a1), .val (.ref a2)] []))
  refine cI X98 hx (hb hby d_jdk_38m25_23) (q := 24) rfl (z := (1 : Int32)) rfl ?_
  have K105 : Keep h0 h88 [a1] := (Keep.refl h0 [a1]).wr W88 (Or.inl (by simp))
  have K106 : Keep h0 T98.heap [a1] := K105.trans K98q (allS (Or.inl (by simp)) all0)
  have le108 : (h0).size ≤ (h88).size := (Nat.le_of_eq (Wr.size W88).symm)
  have gh107 : h0.size ≤ r_98 := Nat.le_trans le108 q98_3
  refine endP X98 hlk (fun h => by rw [hret] at h; cases h) (lastN X98 hx (t := .boolean) (z' := (1 : Int32)) hret (by simp) (by decide) (hb hby d_jdk_38m25_24)) ?_ (by decide) (by decide)
  exact ⟨r_98, kr_98, rfl, N98, K106, q98_0, q98_1, q98_2, gh107, q98_4, q98_5, q98_6, q98_7⟩
def Q_add3b (Z : State) (zC : Int32) (aE : Addr) (aD : Addr) (aM : Addr) (mO : Addr) (a1 : Addr) (a2 : Addr) (a3 : Addr) (r : Addr) (kr : ClassId) (h0 : Heap) (v : Option Value) (h : Heap) (L : List Loc) : Prop := v = none ∧ Fr Z.heap.size L ∧ Keep h0 h [a1, r] ∧ Exa Z h a1 "java/util/ArrayList" ∧ Fld Z h a1 "java/util/ArrayList" "size" "I" (.int (2 : Int32)) ∧ Fld Z h a1 "java/util/ArrayList" "elementData" "[Ljava/lang/Object;" (.ref r) ∧ Arv Z h r kr (.object "java/lang/Object") (10 : Int32) [(.ref a2), (.ref a3), .null, .null, .null, .null, .null, .null, .null, .null] .null ∧ Exa Z h r "[Ljava/lang/Object;"
theorem rm_add3b (l : Launch) (Z : State) (a0 : Array Value) (hw : HW a0 Z) (zC : Int32) (SC : tSC Z zC) (PC : ¬ zC = (0 : Int32)) (aE : Addr) (SE : tSE Z aE) (aD : Addr) (SD : tSD Z aD) (aM : Addr) (SM : tSM Z aM) (mO : Addr) (MO : tMO Z mO) (a1 : Addr) (a2 : Addr) (a3 : Addr) (r : Addr) (kr : ClassId) (h0 : Heap) (O0 : Old Z Z.heap.size h0) (P1 : Exa Z h0 a1 "java/util/ArrayList") (P2 : Fld Z h0 a1 "java/util/ArrayList" "size" "I" (.int (1 : Int32))) (P3 : Fld Z h0 a1 "java/util/ArrayList" "elementData" "[Ljava/lang/Object;" (.ref r)) (P4 : Z.heap.size ≤ a1) (P8 : Arv Z h0 r kr (.object "java/lang/Object") (10 : Int32) [(.ref a2), .null, .null, .null, .null, .null, .null, .null, .null, .null] .null) (P9 : Exa Z h0 r "[Ljava/lang/Object;") (P10 : Ovr Z kr "java/lang/Object") (P11 : Z.heap.size ≤ r) (P6 : Exa Z h0 a3 "com/example/quaymark/quaymark/Review$LeftOut") :
    Con l Z (⟨"java/util/ArrayList", "add", "(Ljava/lang/Object;[Ljava/lang/Object;I)V"⟩ : MethodName) jdk_38_method_24_code 4 none ({ frames := 0, cells := 0, slots := 0, locals := 0 } : Room) #[(.ref a1), (.ref a3), (.ref r), (.int (1 : Int32))] h0 (Q_add3b Z zC aE aD aM mO a1 a2 a3 r kr h0) := by
  refine Con.intro (plainFor_of_name pn3) ?_
  intro p e s m below meth c T0 X0 hx hby hml hown0 hnm hret hlk hZ0 e0
  have N0 := Fr.nil Z.heap.size
  refine castGo (g' := mkF m 0 #[.val (.ref a1), .val (.ref a3), .val (.ref r), .val (.int (1 : Int32))] []) (by first | rfl | (simp [entryFrame, mkF, argsToLocals, Value.category]; done)) ?_
  show Go _ _ _ _ (T0.setTop (mkF m 0 #[.val (.ref a1), .val (.ref a3), .val (.ref r), .val (.int (1 : Int32))] []))
  refine iL X0 hx (hb hby d_jdk_38m24_0) (q := 1) rfl rfl ?_
  refine aL X0 hx (hb hby d_jdk_38m24_1) (q := 2) rfl rfl rfl ?_
  refine g_len X0 hx hZ0 P8 e0 (hb hby d_jdk_38m24_2) (q := 3) rfl ?_
  refine icY X0 hx (hb hby d_jdk_38m24_3) (q := 11) (by decide) (by decide) (by decide) ?_
  refine aL X0 hx (hb hby d_jdk_38m24_11) (q := 12) rfl rfl rfl ?_
  refine iL X0 hx (hb hby d_jdk_38m24_12) (q := 13) rfl rfl ?_
  refine aL X0 hx (hb hby d_jdk_38m24_13) (q := 14) rfl rfl rfl ?_
  refine g_stR X0 hx hZ0 P8 rfl (sto_arv P8 P10 (Ins.of_exa P6 (wd205 hw))) rfl (i := 1) (by decide) (by decide) (by decide) (Nat.le_of_ble_eq_true rfl) e0 (hb hby d_jdk_38m24_14) (q := 15) rfl ?_
  intro T109 h109 X109 e109 W109 V109
  have N109 := Fr.snoc X109 N0 P11
  have Va109 : Arv Z h109 r kr (.object "java/lang/Object") (10 : Int32) [(.ref a2), (.ref a3), .null, .null, .null, .null, .null, .null, .null, .null] .null := V109
  refine aL X109 hx (hb hby d_jdk_38m24_15) (q := 16) rfl rfl rfl ?_
  refine iL X109 hx (hb hby d_jdk_38m24_16) (q := 17) rfl rfl ?_
  refine cI X109 hx (hb hby d_jdk_38m24_17) (q := 18) rfl (z := (1 : Int32)) rfl ?_
  refine g_iadd X109 hx (hb hby d_jdk_38m24_18) (q := 19) rfl (z := (2 : Int32)) (by decide) ?_
  have ne110 : a1 ≠ r := (ne_exa P1 P9 (by decide))
  have f111 : Fld Z h109 a1 "java/util/ArrayList" "size" "I" (.int (1 : Int32)) := P2.other W109 (Or.inl ne110)
  have f112 : Exa Z h109 a1 "java/util/ArrayList" := P1.wr W109
  refine g_putF X109 hx hZ0 hown0 (host := "") (Or.inl (wd102 hw)) Via.refl f111 f112 (Or.inl (wd103 hw)) (wd49 hw) (ty := .int) (by decide) rfl rfl e109 (hb hby d_jdk_38m24_19) (q := 22) rfl ?_
  intro T113 h113 X113 e113 W113
  have N113 := Fr.snoc X113 N109 P4
  have Fw113 : Fld Z h113 a1 "java/util/ArrayList" "size" "I" (.int (2 : Int32)) := f111.same W113
  have K114 : Keep h0 h109 [a1, r] := (Keep.refl h0 [a1, r]).wr W109 (Or.inl (by simp))
  have K115 : Keep h0 h113 [a1, r] := K114.wr W113 (Or.inl (by simp))
  have f116 : Exa Z h113 a1 "java/util/ArrayList" := f112.wr W113
  have f117 : Fld Z h109 a1 "java/util/ArrayList" "elementData" "[Ljava/lang/Object;" (.ref r) := P3.other W109 (Or.inl ne110)
  have f118 : Fld Z h113 a1 "java/util/ArrayList" "elementData" "[Ljava/lang/Object;" (.ref r) := f117.other W113 (Or.inr (slot_ne (Or.inl (wd71 hw)) (Or.inl (wd103 hw)) (by decide) (t := (.array (.object "java/lang/Object"))) (t' := .int) (by decide) (by decide)))
  have ne119 : r ≠ a1 := (Ne.symm ne110)
  have f120 : Arv Z h113 r kr (.object "java/lang/Object") (10 : Int32) [(.ref a2), (.ref a3), .null, .null, .null, .null, .null, .null, .null, .null] .null := Va109.other W113 ne119
  have f121 : Exa Z h109 r "[Ljava/lang/Object;" := P9.wr W109
  have f122 : Exa Z h113 r "[Ljava/lang/Object;" := f121.wr W113
  refine endP X113 hlk (fun _ => rfl) (lastV X113 hx hret (hb hby d_jdk_38m24_22)) ?_ (by decide) (by decide)
  rw [e113]
  exact ⟨rfl, N113, K115, f116, Fw113, f118, f120, f122⟩
def Q_add1b (Z : State) (zC : Int32) (aE : Addr) (aD : Addr) (aM : Addr) (mO : Addr) (a1 : Addr) (a2 : Addr) (a3 : Addr) (r : Addr) (kr : ClassId) (h0 : Heap) (v : Option Value) (h : Heap) (L : List Loc) : Prop := v = some (.int (1 : Int32)) ∧ Fr Z.heap.size L ∧ Keep h0 h [a1, r] ∧ Exa Z h a1 "java/util/ArrayList" ∧ Fld Z h a1 "java/util/ArrayList" "size" "I" (.int (2 : Int32)) ∧ Fld Z h a1 "java/util/ArrayList" "elementData" "[Ljava/lang/Object;" (.ref r) ∧ Arv Z h r kr (.object "java/lang/Object") (10 : Int32) [(.ref a2), (.ref a3), .null, .null, .null, .null, .null, .null, .null, .null] .null ∧ Exa Z h r "[Ljava/lang/Object;"
theorem rm_add1b (l : Launch) (Z : State) (a0 : Array Value) (hw : HW a0 Z) (zC : Int32) (SC : tSC Z zC) (PC : ¬ zC = (0 : Int32)) (aE : Addr) (SE : tSE Z aE) (aD : Addr) (SD : tSD Z aD) (aM : Addr) (SM : tSM Z aM) (mO : Addr) (MO : tMO Z mO) (a1 : Addr) (a2 : Addr) (a3 : Addr) (r : Addr) (kr : ClassId) (h0 : Heap) (O0 : Old Z Z.heap.size h0) (P1 : Exa Z h0 a1 "java/util/ArrayList") (P2 : Fld Z h0 a1 "java/util/ArrayList" "size" "I" (.int (1 : Int32))) (P3 : Fld Z h0 a1 "java/util/ArrayList" "elementData" "[Ljava/lang/Object;" (.ref r)) (P4 : Z.heap.size ≤ a1) (P8 : Arv Z h0 r kr (.object "java/lang/Object") (10 : Int32) [(.ref a2), .null, .null, .null, .null, .null, .null, .null, .null, .null] .null) (P9 : Exa Z h0 r "[Ljava/lang/Object;") (P10 : Ovr Z kr "java/lang/Object") (P11 : Z.heap.size ≤ r) (P6 : Exa Z h0 a3 "com/example/quaymark/quaymark/Review$LeftOut") (P7 : Fld Z h0 a1 "java/util/AbstractList" "modCount" "I" (.int (1 : Int32))) :
    Con l Z (⟨"java/util/ArrayList", "add", "(Ljava/lang/Object;)Z"⟩ : MethodName) jdk_38_method_25_code 2 (some .boolean) ({ frames := 1, cells := 0, slots := 0, locals := 15 } : Room) #[(.ref a1), (.ref a3)] h0 (Q_add1b Z zC aE aD aM mO a1 a2 a3 r kr h0) := by
  refine Con.intro (plainFor_of_name pn3) ?_
  intro p e s m below meth c T0 X0 hx hby hml hown0 hnm hret hlk hZ0 e0
  have N0 := Fr.nil Z.heap.size
  refine castGo (g' := mkF m 0 #[.val (.ref a1), .val (.ref a3)] []) (by first | rfl | (simp [entryFrame, mkF, argsToLocals, Value.category]; done)) ?_
  show Go _ _ _ _ (T0.setTop (mkF m 0 #[.val (.ref a1), .val (.ref a3)] []))
  refine aL X0 hx (hb hby d_jdk_38m25_0) (q := 1) rfl rfl rfl ?_
  refine g_dup X0 hx (hb hby d_jdk_38m25_1) (q := 2) rfl rfl ?_
  refine g_getF X0 hx hZ0 hown0 (host := "") (Or.inl (wd182 hw)) (Via.of (wd183 hw)) P7 e0 (hb hby d_jdk_38m25_2) (q := 5) rfl ?_
  intro T123 X123 e123
  refine cI X123 hx (hb hby d_jdk_38m25_5) (q := 6) rfl (z := (1 : Int32)) rfl ?_
  refine g_iadd X123 hx (hb hby d_jdk_38m25_6) (q := 7) rfl (z := (2 : Int32)) (by decide) ?_
  refine g_putF X123 hx hZ0 hown0 (host := "") (Or.inl (wd182 hw)) (Via.of (wd183 hw)) P7 P1 (Or.inl (wd68 hw)) (wd49 hw) (ty := .int) (by decide) rfl rfl e123 (hb hby d_jdk_38m25_7) (q := 10) rfl ?_
  intro T124 h124 X124 e124 W124
  have N124 := Fr.snoc X124 N0 P4
  have Fw124 : Fld Z h124 a1 "java/util/AbstractList" "modCount" "I" (.int (2 : Int32)) := P7.same W124
  refine aL X124 hx (hb hby d_jdk_38m25_10) (q := 11) rfl rfl rfl ?_
  refine aL X124 hx (hb hby d_jdk_38m25_11) (q := 12) rfl rfl rfl ?_
  refine aL X124 hx (hb hby d_jdk_38m25_12) (q := 13) rfl rfl rfl ?_
  have f125 : Fld Z h124 a1 "java/util/ArrayList" "elementData" "[Ljava/lang/Object;" (.ref r) := P3.other W124 (Or.inr (slot_ne (Or.inl (wd71 hw)) (Or.inl (wd68 hw)) (by decide) (t := (.array (.object "java/lang/Object"))) (t' := .int) (by decide) (by decide)))
  refine g_getF X124 hx hZ0 hown0 (host := "") (Or.inl (wd70 hw)) Via.refl f125 e124 (hb hby d_jdk_38m25_13) (q := 16) rfl ?_
  intro T126 X126 e126
  refine aL X126 hx (hb hby d_jdk_38m25_16) (q := 17) rfl rfl rfl ?_
  have f127 : Fld Z h124 a1 "java/util/ArrayList" "size" "I" (.int (1 : Int32)) := P2.other W124 (Or.inr (slot_ne (Or.inl (wd103 hw)) (Or.inl (wd68 hw)) (by decide) (t := .int) (t' := .int) (by decide) (by decide)))
  refine g_getF X126 hx hZ0 hown0 (host := "") (Or.inl (wd102 hw)) Via.refl f127 e126 (hb hby d_jdk_38m25_17) (q := 20) rfl ?_
  intro T128 X128 e128
  have f135 : Exa Z h124 a1 "java/util/ArrayList" := P1.wr W124
  have ne136 : r ≠ a1 := (ne_exa P9 P1 (by decide))
  have f137 : Arv Z h124 r kr (.object "java/lang/Object") (10 : Int32) [(.ref a2), .null, .null, .null, .null, .null, .null, .null, .null, .null] .null := P8.other W124 ne136
  have f138 : Exa Z h124 r "[Ljava/lang/Object;" := P9.wr W124
  have f139 : Exa Z h124 a3 "com/example/quaymark/quaymark/Review$LeftOut" := P6.wr W124
  have f140 : Old Z Z.heap.size h124 := O0.wr W124 P4
  refine g_pv X128 hx hZ0 hown0 (wd184 hw) (wd185 hw) (wd187 hw) (wd186 hw) (wd188 hw) (by decide) f135 e128 (Con.back (W := 0) (rm_add3b l Z a0 hw zC SC PC aE SE aD SD aM SM mO MO a1 a2 a3 r kr h124 f140 f135 f127 f125 P4 f137 f138 P10 P11 f139) hZ0 (wd188 hw) (wd50 hw) (by decide) (by decide)) (by rw [hml]; rfl) (lenOf pd4 rfl) rfl (Nat.le_of_eq rfl) (hb hby d_jdk_38m25_20) (q := 23) rfl (by decide) (by decide) ?_
  intro v134 T134 L134 X134 Q134
  obtain ⟨rfl, Nq134, K134q, q134_0, q134_1, q134_2, q134_3, q134_4⟩ := Q134
  have N134 := Fr.app N124 Nq134
  show Go _ _ _ _ (T134.setTop (mkF m 23 #[.val (.ref a1), .val (.ref a3)] []))
  refine cI X134 hx (hb hby d_jdk_38m25_23) (q := 24) rfl (z := (1 : Int32)) rfl ?_
  have K141 : Keep h0 h124 [a1, r] := (Keep.refl h0 [a1, r]).wr W124 (Or.inl (by simp))
  have K142 : Keep h0 T134.heap [a1, r] := K141.trans K134q (allS (Or.inl (by simp)) (allS (Or.inl (by simp)) all0))
  refine endP X134 hlk (fun h => by rw [hret] at h; cases h) (lastN X134 hx (t := .boolean) (z' := (1 : Int32)) hret (by simp) (by decide) (hb hby d_jdk_38m25_24)) ?_ (by decide) (by decide)
  exact ⟨rfl, N134, K142, q134_0, q134_1, q134_2, q134_3, q134_4⟩
theorem d_jdk_38m9_0 : decode jdk_38_method_9_code 0 = .ok (.aload_n 0, 1) := by decide +kernel
theorem d_jdk_38m9_1 : decode jdk_38_method_9_code 1 = .ok (.getfield 48, 3) := by decide +kernel
theorem d_jdk_38m9_4 : decode jdk_38_method_9_code 4 = .ok (.ifCond .ne 7, 3) := by decide +kernel
theorem d_jdk_38m9_7 : decode jdk_38_method_9_code 7 = .ok (.iconst 1, 1) := by decide +kernel
theorem d_jdk_38m9_8 : decode jdk_38_method_9_code 8 = .ok (.goto 4, 3) := by decide +kernel
theorem d_jdk_38m9_12 : decode jdk_38_method_9_code 12 = .ok (.ireturn, 1) := by decide +kernel
def Q_isempty0 (Z : State) (zC : Int32) (aE : Addr) (aD : Addr) (aM : Addr) (mO : Addr) (a1 : Addr) (h0 : Heap) (v : Option Value) (h : Heap) (L : List Loc) : Prop := v = some (.int (1 : Int32)) ∧ Fr Z.heap.size L ∧ h = h0
theorem rm_isempty0 (l : Launch) (Z : State) (a0 : Array Value) (hw : HW a0 Z) (zC : Int32) (SC : tSC Z zC) (PC : ¬ zC = (0 : Int32)) (aE : Addr) (SE : tSE Z aE) (aD : Addr) (SD : tSD Z aD) (aM : Addr) (SM : tSM Z aM) (mO : Addr) (MO : tMO Z mO) (a1 : Addr) (h0 : Heap) (O0 : Old Z Z.heap.size h0) (P1 : Fld Z h0 a1 "java/util/ArrayList" "size" "I" (.int (0 : Int32))) :
    Con l Z (⟨"java/util/ArrayList", "isEmpty", "()Z"⟩ : MethodName) jdk_38_method_9_code 1 (some .boolean) ({ frames := 0, cells := 0, slots := 0, locals := 0 } : Room) #[(.ref a1)] h0 (Q_isempty0 Z zC aE aD aM mO a1 h0) := by
  refine Con.intro (plainFor_of_name pn3) ?_
  intro p e s m below meth c T0 X0 hx hby hml hown0 hnm hret hlk hZ0 e0
  have N0 := Fr.nil Z.heap.size
  refine castGo (g' := mkF m 0 #[.val (.ref a1)] []) (by first | rfl | (simp [entryFrame, mkF, argsToLocals, Value.category]; done)) ?_
  show Go _ _ _ _ (T0.setTop (mkF m 0 #[.val (.ref a1)] []))
  refine aL X0 hx (hb hby d_jdk_38m9_0) (q := 1) rfl rfl rfl ?_
  refine g_getF X0 hx hZ0 hown0 (host := "") (Or.inl (wd102 hw)) Via.refl P1 e0 (hb hby d_jdk_38m9_1) (q := 4) rfl ?_
  intro T143 X143 e143
  refine ifN X143 hx (hb hby d_jdk_38m9_4) (q := 7) rfl (by decide) ?_
  refine cI X143 hx (hb hby d_jdk_38m9_7) (q := 8) rfl (z := (1 : Int32)) rfl ?_
  refine g_goto X143 hx (hb hby d_jdk_38m9_8) (q := 12) (by decide) (by decide) ?_
  refine endP X143 hlk (fun h => by rw [hret] at h; cases h) (lastN X143 hx (t := .boolean) (z' := (1 : Int32)) hret (by simp) (by decide) (hb hby d_jdk_38m9_12)) ?_ (by decide) (by decide)
  rw [e143]
  exact ⟨rfl, N0, rfl⟩
theorem d_jdk_38m9_11 : decode jdk_38_method_9_code 11 = .ok (.iconst 0, 1) := by decide +kernel
def Q_isempty1 (Z : State) (zC : Int32) (aE : Addr) (aD : Addr) (aM : Addr) (mO : Addr) (a1 : Addr) (h0 : Heap) (v : Option Value) (h : Heap) (L : List Loc) : Prop := v = some (.int (0 : Int32)) ∧ Fr Z.heap.size L ∧ h = h0
theorem rm_isempty1 (l : Launch) (Z : State) (a0 : Array Value) (hw : HW a0 Z) (zC : Int32) (SC : tSC Z zC) (PC : ¬ zC = (0 : Int32)) (aE : Addr) (SE : tSE Z aE) (aD : Addr) (SD : tSD Z aD) (aM : Addr) (SM : tSM Z aM) (mO : Addr) (MO : tMO Z mO) (a1 : Addr) (h0 : Heap) (O0 : Old Z Z.heap.size h0) (P1 : Fld Z h0 a1 "java/util/ArrayList" "size" "I" (.int (1 : Int32))) :
    Con l Z (⟨"java/util/ArrayList", "isEmpty", "()Z"⟩ : MethodName) jdk_38_method_9_code 1 (some .boolean) ({ frames := 0, cells := 0, slots := 0, locals := 0 } : Room) #[(.ref a1)] h0 (Q_isempty1 Z zC aE aD aM mO a1 h0) := by
  refine Con.intro (plainFor_of_name pn3) ?_
  intro p e s m below meth c T0 X0 hx hby hml hown0 hnm hret hlk hZ0 e0
  have N0 := Fr.nil Z.heap.size
  refine castGo (g' := mkF m 0 #[.val (.ref a1)] []) (by first | rfl | (simp [entryFrame, mkF, argsToLocals, Value.category]; done)) ?_
  show Go _ _ _ _ (T0.setTop (mkF m 0 #[.val (.ref a1)] []))
  refine aL X0 hx (hb hby d_jdk_38m9_0) (q := 1) rfl rfl rfl ?_
  refine g_getF X0 hx hZ0 hown0 (host := "") (Or.inl (wd102 hw)) Via.refl P1 e0 (hb hby d_jdk_38m9_1) (q := 4) rfl ?_
  intro T144 X144 e144
  refine ifY X144 hx (hb hby d_jdk_38m9_4) (q := 11) (by decide) (by decide) (by decide) ?_
  refine cI X144 hx (hb hby d_jdk_38m9_11) (q := 12) rfl (z := (0 : Int32)) rfl ?_
  refine endP X144 hlk (fun h => by rw [hret] at h; cases h) (lastN X144 hx (t := .boolean) (z' := (0 : Int32)) hret (by simp) (by decide) (hb hby d_jdk_38m9_12)) ?_ (by decide) (by decide)
  rw [e144]
  exact ⟨rfl, N0, rfl⟩
def Q_isempty2 (Z : State) (zC : Int32) (aE : Addr) (aD : Addr) (aM : Addr) (mO : Addr) (a1 : Addr) (h0 : Heap) (v : Option Value) (h : Heap) (L : List Loc) : Prop := v = some (.int (0 : Int32)) ∧ Fr Z.heap.size L ∧ h = h0
theorem rm_isempty2 (l : Launch) (Z : State) (a0 : Array Value) (hw : HW a0 Z) (zC : Int32) (SC : tSC Z zC) (PC : ¬ zC = (0 : Int32)) (aE : Addr) (SE : tSE Z aE) (aD : Addr) (SD : tSD Z aD) (aM : Addr) (SM : tSM Z aM) (mO : Addr) (MO : tMO Z mO) (a1 : Addr) (h0 : Heap) (O0 : Old Z Z.heap.size h0) (P1 : Fld Z h0 a1 "java/util/ArrayList" "size" "I" (.int (2 : Int32))) :
    Con l Z (⟨"java/util/ArrayList", "isEmpty", "()Z"⟩ : MethodName) jdk_38_method_9_code 1 (some .boolean) ({ frames := 0, cells := 0, slots := 0, locals := 0 } : Room) #[(.ref a1)] h0 (Q_isempty2 Z zC aE aD aM mO a1 h0) := by
  refine Con.intro (plainFor_of_name pn3) ?_
  intro p e s m below meth c T0 X0 hx hby hml hown0 hnm hret hlk hZ0 e0
  have N0 := Fr.nil Z.heap.size
  refine castGo (g' := mkF m 0 #[.val (.ref a1)] []) (by first | rfl | (simp [entryFrame, mkF, argsToLocals, Value.category]; done)) ?_
  show Go _ _ _ _ (T0.setTop (mkF m 0 #[.val (.ref a1)] []))
  refine aL X0 hx (hb hby d_jdk_38m9_0) (q := 1) rfl rfl rfl ?_
  refine g_getF X0 hx hZ0 hown0 (host := "") (Or.inl (wd102 hw)) Via.refl P1 e0 (hb hby d_jdk_38m9_1) (q := 4) rfl ?_
  intro T145 X145 e145
  refine ifY X145 hx (hb hby d_jdk_38m9_4) (q := 11) (by decide) (by decide) (by decide) ?_
  refine cI X145 hx (hb hby d_jdk_38m9_11) (q := 12) rfl (z := (0 : Int32)) rfl ?_
  refine endP X145 hlk (fun h => by rw [hret] at h; cases h) (lastN X145 hx (t := .boolean) (z' := (0 : Int32)) hret (by simp) (by decide) (hb hby d_jdk_38m9_12)) ?_ (by decide) (by decide)
  rw [e145]
  exact ⟨rfl, N0, rfl⟩
theorem d_jdk_65m120_0 : decode jdk_65_method_120_code 0 = .ok (.aload_n 2, 1) := by decide +kernel
theorem d_jdk_65m120_1 : decode jdk_65_method_120_code 1 = .ok (.ldc 110, 2) := by decide +kernel
theorem wd227 {a0 : Array Value} {Z : State} (hw : HW a0 Z) : ((Jvm.Cond.classLink "java/util/Arrays" (110 : Nat) "[Ljava/lang/Object;") : Jvm.Cond).before a0 Z = true := hw _ (List.mem_of_getElem? (i := 227) rfl)
theorem d_jdk_65m120_3 : decode jdk_65_method_120_code 3 = .ok (.if_acmp .ne 10, 3) := by decide +kernel
theorem d_jdk_65m120_6 : decode jdk_65_method_120_code 6 = .ok (.iload_n 1, 1) := by decide +kernel
theorem d_jdk_65m120_7 : decode jdk_65_method_120_code 7 = .ok (.anewarray 2, 3) := by decide +kernel
theorem wd228 {a0 : Array Value} {Z : State} (hw : HW a0 Z) : ((Jvm.Cond.classLink "java/util/Arrays" (2 : Nat) "java/lang/Object") : Jvm.Cond).before a0 Z = true := hw _ (List.mem_of_getElem? (i := 228) rfl)
theorem d_jdk_65m120_10 : decode jdk_65_method_120_code 10 = .ok (.goto 14, 3) := by decide +kernel
theorem d_jdk_65m120_24 : decode jdk_65_method_120_code 24 = .ok (.astore_n 3, 1) := by decide +kernel
theorem d_jdk_65m120_25 : decode jdk_65_method_120_code 25 = .ok (.aload_n 0, 1) := by decide +kernel
theorem d_jdk_65m120_26 : decode jdk_65_method_120_code 26 = .ok (.iconst 0, 1) := by decide +kernel
theorem d_jdk_65m120_27 : decode jdk_65_method_120_code 27 = .ok (.aload_n 3, 1) := by decide +kernel
theorem d_jdk_65m120_28 : decode jdk_65_method_120_code 28 = .ok (.iconst 0, 1) := by decide +kernel
theorem d_jdk_65m120_29 : decode jdk_65_method_120_code 29 = .ok (.aload_n 0, 1) := by decide +kernel
theorem d_jdk_65m120_30 : decode jdk_65_method_120_code 30 = .ok (.arraylength, 1) := by decide +kernel
theorem d_jdk_65m120_31 : decode jdk_65_method_120_code 31 = .ok (.iload_n 1, 1) := by decide +kernel
theorem d_jdk_65m120_32 : decode jdk_65_method_120_code 32 = .ok (.invokestatic 304, 3) := by decide +kernel
theorem wd231 {a0 : Array Value} {Z : State} (hw : HW a0 Z) : ((Jvm.Cond.code ({ cls := "java/lang/Math", name := "min", desc := "(II)I" } : Jvm.MethodName) jdk_29_method_69_code (2 : Nat) (Option.some Jvm.ClassFile.FieldType.int)) : Jvm.Cond).before a0 Z = true := hw _ (List.mem_of_getElem? (i := 231) rfl)
theorem wd229 {a0 : Array Value} {Z : State} (hw : HW a0 Z) : ((Jvm.Cond.methodLink "java/util/Arrays" (304 : Nat) ({ cls := "java/lang/Math", name := "min", desc := "(II)I" } : Jvm.MethodName)) : Jvm.Cond).before a0 Z = true := hw _ (List.mem_of_getElem? (i := 229) rfl)
theorem wd230 {a0 : Array Value} {Z : State} (hw : HW a0 Z) : ((Jvm.Cond.static ({ cls := "java/lang/Math", name := "min", desc := "(II)I" } : Jvm.MethodName)) : Jvm.Cond).before a0 Z = true := hw _ (List.mem_of_getElem? (i := 230) rfl)
theorem d_jdk_65m120_35 : decode jdk_65_method_120_code 35 = .ok (.invokestatic 150, 3) := by decide +kernel
theorem wd232 {a0 : Array Value} {Z : State} (hw : HW a0 Z) : ((Jvm.Cond.methodLink "java/util/Arrays" (150 : Nat) ({ cls := "java/lang/System", name := "arraycopy", desc := "(Ljava/lang/Object;ILjava/lang/Object;II)V" } : Jvm.MethodName)) : Jvm.Cond).before a0 Z = true := hw _ (List.mem_of_getElem? (i := 232) rfl)
theorem wd235 {a0 : Array Value} {Z : State} (hw : HW a0 Z) : ((Jvm.Cond.native ({ cls := "java/lang/System", name := "arraycopy", desc := "(Ljava/lang/Object;ILjava/lang/Object;II)V" } : Jvm.MethodName)) : Jvm.Cond).before a0 Z = true := hw _ (List.mem_of_getElem? (i := 235) rfl)
theorem wd233 {a0 : Array Value} {Z : State} (hw : HW a0 Z) : ((Jvm.Cond.static ({ cls := "java/lang/System", name := "arraycopy", desc := "(Ljava/lang/Object;ILjava/lang/Object;II)V" } : Jvm.MethodName)) : Jvm.Cond).before a0 Z = true := hw _ (List.mem_of_getElem? (i := 233) rfl)
theorem wd234 {a0 : Array Value} {Z : State} (hw : HW a0 Z) : ((Jvm.Cond.initialized "java/lang/System") : Jvm.Cond).before a0 Z = true := hw _ (List.mem_of_getElem? (i := 234) rfl)
theorem d_jdk_65m120_38 : decode jdk_65_method_120_code 38 = .ok (.aload_n 3, 1) := by decide +kernel
theorem d_jdk_65m120_39 : decode jdk_65_method_120_code 39 = .ok (.areturn, 1) := by decide +kernel
def Q_cpc1 (Z : State) (zC : Int32) (aE : Addr) (aD : Addr) (aM : Addr) (mO : Addr) (r : Addr) (kr : ClassId) (x0 : Addr) (h0 : Heap) (v : Option Value) (h : Heap) (L : List Loc) : Prop := ∃ (c : Addr), ∃ (kc : ClassId), v = some (.ref c) ∧ Fr Z.heap.size L ∧ Keep h0 h [] ∧ h0.size ≤ c ∧ Arv Z h c kc (.object "java/lang/Object") (1 : Int32) [(.ref x0)] .null
theorem pn8 : plainName "java/util/Arrays" = true := by first | (simp [plainName, overriddenIn]; done) | decide +kernel
theorem rm_cpc1 (l : Launch) (Z : State) (a0 : Array Value) (hw : HW a0 Z) (zC : Int32) (SC : tSC Z zC) (PC : ¬ zC = (0 : Int32)) (aE : Addr) (SE : tSE Z aE) (aD : Addr) (SD : tSD Z aD) (aM : Addr) (SM : tSM Z aM) (mO : Addr) (MO : tMO Z mO) (r : Addr) (kr : ClassId) (x0 : Addr) (h0 : Heap) (O0 : Old Z Z.heap.size h0) (P1 : Arv Z h0 r kr (.object "java/lang/Object") (10 : Int32) [(.ref x0), .null, .null, .null, .null, .null, .null, .null, .null, .null] .null) (P2 : Exa Z h0 r "[Ljava/lang/Object;") (PX0 : Exa Z h0 x0 "com/example/quaymark/quaymark/Review$LeftOut") :
    Con l Z (⟨"java/util/Arrays", "copyOf", "([Ljava/lang/Object;ILjava/lang/Class;)[Ljava/lang/Object;"⟩ : MethodName) jdk_65_method_120_code 4 (some (.array (.object "java/lang/Object"))) ({ frames := 1, cells := 1, slots := 1, locals := 31 } : Room) #[(.ref r), (.int (1 : Int32)), (.ref mO)] h0 (Q_cpc1 Z zC aE aD aM mO r kr x0 h0) := by
  refine Con.intro (plainFor_of_name pn8) ?_
  intro p e s m below meth c T0 X0 hx hby hml hown0 hnm hret hlk hZ0 e0
  have N0 := Fr.nil Z.heap.size
  refine castGo (g' := mkF m 0 #[.val (.ref r), .val (.int (1 : Int32)), .val (.ref mO), .unset] []) (by first | rfl | (simp [entryFrame, mkF, argsToLocals, Value.category]; done)) ?_
  show Go _ _ _ _ (T0.setTop (mkF m 0 #[.val (.ref r), .val (.int (1 : Int32)), .val (.ref mO), .unset] []))
  refine aL X0 hx (hb hby d_jdk_65m120_0) (q := 1) rfl rfl rfl ?_
  refine g_ldcM X0 hx hZ0 hown0 (wd227 hw) MO e0 (hb hby d_jdk_65m120_1) (q := 3) rfl ?_
  intro T146 X146 e146
  refine g_acmp X146 hx (hb hby d_jdk_65m120_3) (q := 6) rfl rfl (same := true) (decide_eq_true rfl) (by decide) (by decide) ?_
  refine iL X146 hx (hb hby d_jdk_65m120_6) (q := 7) rfl rfl ?_
  refine g_newR X146 hx hZ0 hown0 (wd228 hw) (wd204 hw) (ad := "[Ljava/lang/Object;") (by decide) (by decide) (n := 1) (by decide) (by decide) (by decide) (by decide) e146 (hb hby d_jdk_65m120_7) (q := 10) rfl ?_
  intro T147 h147 k147 b147 g147 X147 e147 E147 V147 A147 O147
  have Va147 : Arv Z h147 b147 k147 (.object "java/lang/Object") (1 : Int32) [.null] .null := V147
  refine g_goto X147 hx (hb hby d_jdk_65m120_10) (q := 24) (by decide) (by decide) ?_
  refine sA X147 hx (hb hby d_jdk_65m120_24) (q := 25) rfl rfl (Ls' := #[.val (.ref r), .val (.int (1 : Int32)), .val (.ref mO), .val (.ref b147)]) rfl ?_
  refine aL X147 hx (hb hby d_jdk_65m120_25) (q := 26) rfl rfl rfl ?_
  refine cI X147 hx (hb hby d_jdk_65m120_26) (q := 27) rfl (z := (0 : Int32)) rfl ?_
  refine aL X147 hx (hb hby d_jdk_65m120_27) (q := 28) rfl rfl rfl ?_
  refine cI X147 hx (hb hby d_jdk_65m120_28) (q := 29) rfl (z := (0 : Int32)) rfl ?_
  refine aL X147 hx (hb hby d_jdk_65m120_29) (q := 30) rfl rfl rfl ?_
  have f148 : Arv Z h147 r kr (.object "java/lang/Object") (10 : Int32) [(.ref x0), .null, .null, .null, .null, .null, .null, .null, .null, .null] .null := P1.ext E147
  refine g_len X147 hx hZ0 f148 e147 (hb hby d_jdk_65m120_30) (q := 31) rfl ?_
  refine iL X147 hx (hb hby d_jdk_65m120_31) (q := 32) rfl rfl ?_
  have f150 : Old Z Z.heap.size h147 := O0.ext E147
  refine g_st X147 hx hZ0 hown0 (wd229 hw) (wd230 hw) (wd201 hw) (wd231 hw) (by decide) e147 (Con.back (W := 4) (rm_min1 l Z a0 hw zC SC PC aE SE aD SD aM SM mO MO  h147 f150 ) hZ0 (wd231 hw) (wd201 hw) (by decide) (by decide)) (by rw [hml]; rfl) (lenOf pd1 rfl) rfl (Nat.le_of_eq rfl) (hb hby d_jdk_65m120_32) (q := 35) rfl (by decide) (by decide) ?_
  intro v149 T149 L149 X149 Q149
  obtain ⟨rfl, Nq149, e149⟩ := Q149
  have N149 := Fr.app N0 Nq149
  show Go _ _ _ _ (T149.setTop (mkF m 35 #[.val (.ref r), .val (.int (1 : Int32)), .val (.ref mO), .val (.ref b147)] [(.int (1 : Int32)), (.int (0 : Int32)), (.ref b147), (.int (0 : Int32)), (.ref r)]))
  have f152 : Exa Z h147 x0 "com/example/quaymark/quaymark/Review$LeftOut" := PX0.ext E147
  have gz153 : Z.heap.size ≤ b147 := Nat.le_trans O0.2.1 (Nat.le_of_eq g147.symm)
  refine g_cp X149 hx hZ0 hown0 (wd232 hw) (wd235 hw) (wd233 hw) (wd234 hw) (us := [(.ref x0)]) f148 Va147 (Or.inr ⟨rfl, rfl, ⟨(sto_arv Va147 O147 (Ins.of_exa f152 (wd205 hw))), trivial⟩⟩) (by decide) (by decide) (by decide) (by decide) (by decide) rfl (Nat.le_of_ble_eq_true rfl) N149 gz153 (by rw [hml]; rfl) (by decide) (W := 0) (Nat.le_of_eq rfl) (by decide) e149 (hb hby d_jdk_65m120_35) (q := 38) rfl ?_
  intro T151 h151 L151 X151 e151 N151 K151q V151
  have Va151 : Arv Z h151 b147 k147 (.object "java/lang/Object") (1 : Int32) [(.ref x0)] .null := V151
  refine aL X151 hx (hb hby d_jdk_65m120_38) (q := 39) rfl rfl rfl ?_
  have K154 : Keep h0 h147 [] := (Keep.refl h0 []).ext E147
  have gh155 : h0.size ≤ b147 := Nat.le_trans (Nat.le_refl _) (Nat.le_of_eq g147.symm)
  have K156 : Keep h0 h151 [] := K154.trans K151q (allS (Or.inr gh155) all0)
  refine endP X151 hlk (fun h => by rw [hret] at h; cases h) (lastA X151 hx hret rfl rfl rfl (hb hby d_jdk_65m120_39)) ?_ (by decide) (by decide)
  rw [e151]
  exact ⟨b147, k147, rfl, N151, K156, gh155, Va151⟩
theorem d_jdk_65m119_0 : decode jdk_65_method_119_code 0 = .ok (.aload_n 0, 1) := by decide +kernel
theorem d_jdk_65m119_1 : decode jdk_65_method_119_code 1 = .ok (.iload_n 1, 1) := by decide +kernel
theorem d_jdk_65m119_2 : decode jdk_65_method_119_code 2 = .ok (.aload_n 0, 1) := by decide +kernel
theorem d_jdk_65m119_3 : decode jdk_65_method_119_code 3 = .ok (.invokevirtual 86, 3) := by decide +kernel
theorem wd218 {a0 : Array Value} {Z : State} (hw : HW a0 Z) : ((Jvm.Cond.methodLink "java/util/Arrays" (86 : Nat) ({ cls := "java/lang/Object", name := "getClass", desc := "()Ljava/lang/Class;" } : Jvm.MethodName)) : Jvm.Cond).before a0 Z = true := hw _ (List.mem_of_getElem? (i := 218) rfl)
theorem wd219 {a0 : Array Value} {Z : State} (hw : HW a0 Z) : ((Jvm.Cond.declares ({ cls := "java/lang/Object", name := "getClass", desc := "()Ljava/lang/Class;" } : Jvm.MethodName)) : Jvm.Cond).before a0 Z = true := hw _ (List.mem_of_getElem? (i := 219) rfl)
theorem wd91 {a0 : Array Value} {Z : State} (hw : HW a0 Z) : ((Jvm.Cond.noSuperclass "java/lang/Object") : Jvm.Cond).before a0 Z = true := hw _ (List.mem_of_getElem? (i := 91) rfl)
theorem wd221 {a0 : Array Value} {Z : State} (hw : HW a0 Z) : ((Jvm.Cond.selects "[Ljava/lang/Object;" ({ cls := "java/lang/Object", name := "getClass", desc := "()Ljava/lang/Class;" } : Jvm.MethodName) ({ cls := "java/lang/Object", name := "getClass", desc := "()Ljava/lang/Class;" } : Jvm.MethodName)) : Jvm.Cond).before a0 Z = true := hw _ (List.mem_of_getElem? (i := 221) rfl)
theorem wd220 {a0 : Array Value} {Z : State} (hw : HW a0 Z) : ((Jvm.Cond.instanceMethod ({ cls := "java/lang/Object", name := "getClass", desc := "()Ljava/lang/Class;" } : Jvm.MethodName)) : Jvm.Cond).before a0 Z = true := hw _ (List.mem_of_getElem? (i := 220) rfl)
theorem wd222 {a0 : Array Value} {Z : State} (hw : HW a0 Z) : ((Jvm.Cond.native ({ cls := "java/lang/Object", name := "getClass", desc := "()Ljava/lang/Class;" } : Jvm.MethodName)) : Jvm.Cond).before a0 Z = true := hw _ (List.mem_of_getElem? (i := 222) rfl)
theorem d_jdk_65m119_6 : decode jdk_65_method_119_code 6 = .ok (.invokestatic 300, 3) := by decide +kernel
theorem wd226 {a0 : Array Value} {Z : State} (hw : HW a0 Z) : ((Jvm.Cond.code ({ cls := "java/util/Arrays", name := "copyOf", desc := "([Ljava/lang/Object;ILjava/lang/Class;)[Ljava/lang/Object;" } : Jvm.MethodName) jdk_65_method_120_code (4 : Nat) (Option.some (Jvm.ClassFile.FieldType.array (Jvm.ClassFile.FieldType.object "java/lang/Object")))) : Jvm.Cond).before a0 Z = true := hw _ (List.mem_of_getElem? (i := 226) rfl)
theorem wd216 {a0 : Array Value} {Z : State} (hw : HW a0 Z) : ((Jvm.Cond.initialized "java/util/Arrays") : Jvm.Cond).before a0 Z = true := hw _ (List.mem_of_getElem? (i := 216) rfl)
theorem pd5 : parseMethodDescriptor "([Ljava/lang/Object;ILjava/lang/Class;)[Ljava/lang/Object;" = some ⟨[(.array (.object "java/lang/Object")), .int, (.object "java/lang/Class")], some (.array (.object "java/lang/Object"))⟩ := by decide +kernel
theorem wd224 {a0 : Array Value} {Z : State} (hw : HW a0 Z) : ((Jvm.Cond.methodLink "java/util/Arrays" (300 : Nat) ({ cls := "java/util/Arrays", name := "copyOf", desc := "([Ljava/lang/Object;ILjava/lang/Class;)[Ljava/lang/Object;" } : Jvm.MethodName)) : Jvm.Cond).before a0 Z = true := hw _ (List.mem_of_getElem? (i := 224) rfl)
theorem wd225 {a0 : Array Value} {Z : State} (hw : HW a0 Z) : ((Jvm.Cond.static ({ cls := "java/util/Arrays", name := "copyOf", desc := "([Ljava/lang/Object;ILjava/lang/Class;)[Ljava/lang/Object;" } : Jvm.MethodName)) : Jvm.Cond).before a0 Z = true := hw _ (List.mem_of_getElem? (i := 225) rfl)
theorem d_jdk_65m119_9 : decode jdk_65_method_119_code 9 = .ok (.areturn, 1) := by decide +kernel
def Q_cp1 (Z : State) (zC : Int32) (aE : Addr) (aD : Addr) (aM : Addr) (mO : Addr) (r : Addr) (kr : ClassId) (x0 : Addr) (h0 : Heap) (v : Option Value) (h : Heap) (L : List Loc) : Prop := ∃ (c : Addr), ∃ (kc : ClassId), v = some (.ref c) ∧ Fr Z.heap.size L ∧ Keep h0 h [] ∧ h0.size ≤ c ∧ Arv Z h c kc (.object "java/lang/Object") (1 : Int32) [(.ref x0)] .null
theorem rm_cp1 (l : Launch) (Z : State) (a0 : Array Value) (hw : HW a0 Z) (zC : Int32) (SC : tSC Z zC) (PC : ¬ zC = (0 : Int32)) (aE : Addr) (SE : tSE Z aE) (aD : Addr) (SD : tSD Z aD) (aM : Addr) (SM : tSM Z aM) (mO : Addr) (MO : tMO Z mO) (r : Addr) (kr : ClassId) (x0 : Addr) (h0 : Heap) (O0 : Old Z Z.heap.size h0) (P1 : Arv Z h0 r kr (.object "java/lang/Object") (10 : Int32) [(.ref x0), .null, .null, .null, .null, .null, .null, .null, .null, .null] .null) (P2 : Exa Z h0 r "[Ljava/lang/Object;") (PX0 : Exa Z h0 x0 "com/example/quaymark/quaymark/Review$LeftOut") :
    Con l Z (⟨"java/util/Arrays", "copyOf", "([Ljava/lang/Object;I)[Ljava/lang/Object;"⟩ : MethodName) jdk_65_method_119_code 2 (some (.array (.object "java/lang/Object"))) ({ frames := 2, cells := 1, slots := 1, locals := 46 } : Room) #[(.ref r), (.int (1 : Int32))] h0 (Q_cp1 Z zC aE aD aM mO r kr x0 h0) := by
  refine Con.intro (plainFor_of_name pn8) ?_
  intro p e s m below meth c T0 X0 hx hby hml hown0 hnm hret hlk hZ0 e0
  have N0 := Fr.nil Z.heap.size
  refine castGo (g' := mkF m 0 #[.val (.ref r), .val (.int (1 : Int32))] []) (by first | rfl | (simp [entryFrame, mkF, argsToLocals, Value.category]; done)) ?_
  show Go _ _ _ _ (T0.setTop (mkF m 0 #[.val (.ref r), .val (.int (1 : Int32))] []))
  refine aL X0 hx (hb hby d_jdk_65m119_0) (q := 1) rfl rfl rfl ?_
  refine iL X0 hx (hb hby d_jdk_65m119_1) (q := 2) rfl rfl ?_
  refine aL X0 hx (hb hby d_jdk_65m119_2) (q := 3) rfl rfl rfl ?_
  refine g_gcls X0 hx hZ0 hown0 (wd218 hw) (wd219 hw) (wd91 hw) (wd221 hw) (wd220 hw) (wd222 hw) P2 MO (by rw [hml]; rfl) (by decide) (W := 2) (Nat.le_of_eq rfl) (by decide) e0 (hb hby d_jdk_65m119_3) (q := 6) rfl ?_
  intro T157 X157 e157
  refine g_st X157 hx hZ0 hown0 (wd224 hw) (wd225 hw) (wd216 hw) (wd226 hw) (by decide) e157 (Con.back (W := 0) (rm_cpc1 l Z a0 hw zC SC PC aE SE aD SD aM SM mO MO r kr x0 h0 O0 P1 P2 PX0) hZ0 (wd226 hw) (wd216 hw) (by decide) (by decide)) (by rw [hml]; rfl) (lenOf pd5 rfl) rfl (Nat.le_of_eq rfl) (hb hby d_jdk_65m119_6) (q := 9) rfl (by decide) (by decide) ?_
  intro v158 T158 L158 X158 Q158
  obtain ⟨c_158, kc_158, rfl, Nq158, K158q, q158_0, q158_1⟩ := Q158
  have N158 := Fr.app N0 Nq158
  show Go _ _ _ _ (T158.setTop (mkF m 9 #[.val (.ref r), .val (.int (1 : Int32))] [(.ref c_158)]))
  have K159 : Keep h0 T158.heap [] := (Keep.refl h0 []).trans K158q all0
  have gh160 : h0.size ≤ c_158 := Nat.le_trans (Nat.le_refl _) q158_0
  refine endP X158 hlk (fun h => by rw [hret] at h; cases h) (lastA X158 hx hret rfl rfl rfl (hb hby d_jdk_65m119_9)) ?_ (by decide) (by decide)
  exact ⟨c_158, kc_158, rfl, N158, K159, gh160, q158_1⟩
theorem d_jdk_38m16_0 : decode jdk_38_method_16_code 0 = .ok (.aload_n 0, 1) := by decide +kernel
theorem d_jdk_38m16_1 : decode jdk_38_method_16_code 1 = .ok (.getfield 9, 3) := by decide +kernel
theorem d_jdk_38m16_4 : decode jdk_38_method_16_code 4 = .ok (.aload_n 0, 1) := by decide +kernel
theorem d_jdk_38m16_5 : decode jdk_38_method_16_code 5 = .ok (.getfield 48, 3) := by decide +kernel
theorem d_jdk_38m16_8 : decode jdk_38_method_16_code 8 = .ok (.invokestatic 66, 3) := by decide +kernel
theorem wd217 {a0 : Array Value} {Z : State} (hw : HW a0 Z) : ((Jvm.Cond.code ({ cls := "java/util/Arrays", name := "copyOf", desc := "([Ljava/lang/Object;I)[Ljava/lang/Object;" } : Jvm.MethodName) jdk_65_method_119_code (2 : Nat) (Option.some (Jvm.ClassFile.FieldType.array (Jvm.ClassFile.FieldType.object "java/lang/Object")))) : Jvm.Cond).before a0 Z = true := hw _ (List.mem_of_getElem? (i := 217) rfl)
theorem pd6 : parseMethodDescriptor "([Ljava/lang/Object;I)[Ljava/lang/Object;" = some ⟨[(.array (.object "java/lang/Object")), .int], some (.array (.object "java/lang/Object"))⟩ := by decide +kernel
theorem wd214 {a0 : Array Value} {Z : State} (hw : HW a0 Z) : ((Jvm.Cond.methodLink "java/util/ArrayList" (66 : Nat) ({ cls := "java/util/Arrays", name := "copyOf", desc := "([Ljava/lang/Object;I)[Ljava/lang/Object;" } : Jvm.MethodName)) : Jvm.Cond).before a0 Z = true := hw _ (List.mem_of_getElem? (i := 214) rfl)
theorem wd215 {a0 : Array Value} {Z : State} (hw : HW a0 Z) : ((Jvm.Cond.static ({ cls := "java/util/Arrays", name := "copyOf", desc := "([Ljava/lang/Object;I)[Ljava/lang/Object;" } : Jvm.MethodName)) : Jvm.Cond).before a0 Z = true := hw _ (List.mem_of_getElem? (i := 215) rfl)
theorem d_jdk_38m16_11 : decode jdk_38_method_16_code 11 = .ok (.areturn, 1) := by decide +kernel
def Q_toarr1 (Z : State) (zC : Int32) (aE : Addr) (aD : Addr) (aM : Addr) (mO : Addr) (a1 : Addr) (r : Addr) (kr : ClassId) (x0 : Addr) (h0 : Heap) (v : Option Value) (h : Heap) (L : List Loc) : Prop := ∃ (c : Addr), ∃ (kc : ClassId), v = some (.ref c) ∧ Fr Z.heap.size L ∧ Keep h0 h [] ∧ h0.size ≤ c ∧ Arv Z h c kc (.object "java/lang/Object") (1 : Int32) [(.ref x0)] .null
theorem rm_toarr1 (l : Launch) (Z : State) (a0 : Array Value) (hw : HW a0 Z) (zC : Int32) (SC : tSC Z zC) (PC : ¬ zC = (0 : Int32)) (aE : Addr) (SE : tSE Z aE) (aD : Addr) (SD : tSD Z aD) (aM : Addr) (SM : tSM Z aM) (mO : Addr) (MO : tMO Z mO) (a1 : Addr) (r : Addr) (kr : ClassId) (x0 : Addr) (h0 : Heap) (O0 : Old Z Z.heap.size h0) (P3 : Exa Z h0 a1 "java/util/ArrayList") (P4 : Fld Z h0 a1 "java/util/ArrayList" "size" "I" (.int (1 : Int32))) (P5 : Fld Z h0 a1 "java/util/ArrayList" "elementData" "[Ljava/lang/Object;" (.ref r)) (P1 : Arv Z h0 r kr (.object "java/lang/Object") (10 : Int32) [(.ref x0), .null, .null, .null, .null, .null, .null, .null, .null, .null] .null) (P2 : Exa Z h0 r "[Ljava/lang/Object;") (PX0 : Exa Z h0 x0 "com/example/quaymark/quaymark/Review$LeftOut") :
    Con l Z (⟨"java/util/ArrayList", "toArray", "()[Ljava/lang/Object;"⟩ : MethodName) jdk_38_method_16_code 1 (some (.array (.object "java/lang/Object"))) ({ frames := 3, cells := 1, slots := 1, locals := 59 } : Room) #[(.ref a1)] h0 (Q_toarr1 Z zC aE aD aM mO a1 r kr x0 h0) := by
  refine Con.intro (plainFor_of_name pn3) ?_
  intro p e s m below meth c T0 X0 hx hby hml hown0 hnm hret hlk hZ0 e0
  have N0 := Fr.nil Z.heap.size
  refine castGo (g' := mkF m 0 #[.val (.ref a1)] []) (by first | rfl | (simp [entryFrame, mkF, argsToLocals, Value.category]; done)) ?_
  show Go _ _ _ _ (T0.setTop (mkF m 0 #[.val (.ref a1)] []))
  refine aL X0 hx (hb hby d_jdk_38m16_0) (q := 1) rfl rfl rfl ?_
  refine g_getF X0 hx hZ0 hown0 (host := "") (Or.inl (wd70 hw)) Via.refl P5 e0 (hb hby d_jdk_38m16_1) (q := 4) rfl ?_
  intro T161 X161 e161
  refine aL X161 hx (hb hby d_jdk_38m16_4) (q := 5) rfl rfl rfl ?_
  refine g_getF X161 hx hZ0 hown0 (host := "") (Or.inl (wd102 hw)) Via.refl P4 e161 (hb hby d_jdk_38m16_5) (q := 8) rfl ?_
  intro T162 X162 e162
  refine g_st X162 hx hZ0 hown0 (wd214 hw) (wd215 hw) (wd216 hw) (wd217 hw) (by decide) e162 (Con.back (W := 0) (rm_cp1 l Z a0 hw zC SC PC aE SE aD SD aM SM mO MO r kr x0 h0 O0 P1 P2 PX0) hZ0 (wd217 hw) (wd216 hw) (by decide) (by decide)) (by rw [hml]; rfl) (lenOf pd6 rfl) rfl (Nat.le_of_eq rfl) (hb hby d_jdk_38m16_8) (q := 11) rfl (by decide) (by decide) ?_
  intro v163 T163 L163 X163 Q163
  obtain ⟨c_163, kc_163, rfl, Nq163, K163q, q163_0, q163_1⟩ := Q163
  have N163 := Fr.app N0 Nq163
  show Go _ _ _ _ (T163.setTop (mkF m 11 #[.val (.ref a1)] [(.ref c_163)]))
  have K164 : Keep h0 T163.heap [] := (Keep.refl h0 []).trans K163q all0
  have gh165 : h0.size ≤ c_163 := Nat.le_trans (Nat.le_refl _) q163_0
  refine endP X163 hlk (fun h => by rw [hret] at h; cases h) (lastA X163 hx hret rfl rfl rfl (hb hby d_jdk_38m16_11)) ?_ (by decide) (by decide)
  exact ⟨c_163, kc_163, rfl, N163, K164, gh165, q163_1⟩
def Q_cpc2 (Z : State) (zC : Int32) (aE : Addr) (aD : Addr) (aM : Addr) (mO : Addr) (r : Addr) (kr : ClassId) (x0 : Addr) (x1 : Addr) (h0 : Heap) (v : Option Value) (h : Heap) (L : List Loc) : Prop := ∃ (c : Addr), ∃ (kc : ClassId), v = some (.ref c) ∧ Fr Z.heap.size L ∧ Keep h0 h [] ∧ h0.size ≤ c ∧ Arv Z h c kc (.object "java/lang/Object") (2 : Int32) [(.ref x0), (.ref x1)] .null
theorem rm_cpc2 (l : Launch) (Z : State) (a0 : Array Value) (hw : HW a0 Z) (zC : Int32) (SC : tSC Z zC) (PC : ¬ zC = (0 : Int32)) (aE : Addr) (SE : tSE Z aE) (aD : Addr) (SD : tSD Z aD) (aM : Addr) (SM : tSM Z aM) (mO : Addr) (MO : tMO Z mO) (r : Addr) (kr : ClassId) (x0 : Addr) (x1 : Addr) (h0 : Heap) (O0 : Old Z Z.heap.size h0) (P1 : Arv Z h0 r kr (.object "java/lang/Object") (10 : Int32) [(.ref x0), (.ref x1), .null, .null, .null, .null, .null, .null, .null, .null] .null) (P2 : Exa Z h0 r "[Ljava/lang/Object;") (PX0 : Exa Z h0 x0 "com/example/quaymark/quaymark/Review$LeftOut") (PX1 : Exa Z h0 x1 "com/example/quaymark/quaymark/Review$LeftOut") :
    Con l Z (⟨"java/util/Arrays", "copyOf", "([Ljava/lang/Object;ILjava/lang/Class;)[Ljava/lang/Object;"⟩ : MethodName) jdk_65_method_120_code 4 (some (.array (.object "java/lang/Object"))) ({ frames := 1, cells := 1, slots := 2, locals := 31 } : Room) #[(.ref r), (.int (2 : Int32)), (.ref mO)] h0 (Q_cpc2 Z zC aE aD aM mO r kr x0 x1 h0) := by
  refine Con.intro (plainFor_of_name pn8) ?_
  intro p e s m below meth c T0 X0 hx hby hml hown0 hnm hret hlk hZ0 e0
  have N0 := Fr.nil Z.heap.size
  refine castGo (g' := mkF m 0 #[.val (.ref r), .val (.int (2 : Int32)), .val (.ref mO), .unset] []) (by first | rfl | (simp [entryFrame, mkF, argsToLocals, Value.category]; done)) ?_
  show Go _ _ _ _ (T0.setTop (mkF m 0 #[.val (.ref r), .val (.int (2 : Int32)), .val (.ref mO), .unset] []))
  refine aL X0 hx (hb hby d_jdk_65m120_0) (q := 1) rfl rfl rfl ?_
  refine g_ldcM X0 hx hZ0 hown0 (wd227 hw) MO e0 (hb hby d_jdk_65m120_1) (q := 3) rfl ?_
  intro T166 X166 e166
  refine g_acmp X166 hx (hb hby d_jdk_65m120_3) (q := 6) rfl rfl (same := true) (decide_eq_true rfl) (by decide) (by decide) ?_
  refine iL X166 hx (hb hby d_jdk_65m120_6) (q := 7) rfl rfl ?_
  refine g_newR X166 hx hZ0 hown0 (wd228 hw) (wd204 hw) (ad := "[Ljava/lang/Object;") (by decide) (by decide) (n := 2) (by decide) (by decide) (by decide) (by decide) e166 (hb hby d_jdk_65m120_7) (q := 10) rfl ?_
  intro T167 h167 k167 b167 g167 X167 e167 E167 V167 A167 O167
  have Va167 : Arv Z h167 b167 k167 (.object "java/lang/Object") (2 : Int32) [.null, .null] .null := V167
  refine g_goto X167 hx (hb hby d_jdk_65m120_10) (q := 24) (by decide) (by decide) ?_
  refine sA X167 hx (hb hby d_jdk_65m120_24) (q := 25) rfl rfl (Ls' := #[.val (.ref r), .val (.int (2 : Int32)), .val (.ref mO), .val (.ref b167)]) rfl ?_
  refine aL X167 hx (hb hby d_jdk_65m120_25) (q := 26) rfl rfl rfl ?_
  refine cI X167 hx (hb hby d_jdk_65m120_26) (q := 27) rfl (z := (0 : Int32)) rfl ?_
  refine aL X167 hx (hb hby d_jdk_65m120_27) (q := 28) rfl rfl rfl ?_
  refine cI X167 hx (hb hby d_jdk_65m120_28) (q := 29) rfl (z := (0 : Int32)) rfl ?_
  refine aL X167 hx (hb hby d_jdk_65m120_29) (q := 30) rfl rfl rfl ?_
  have f168 : Arv Z h167 r kr (.object "java/lang/Object") (10 : Int32) [(.ref x0), (.ref x1), .null, .null, .null, .null, .null, .null, .null, .null] .null := P1.ext E167
  refine g_len X167 hx hZ0 f168 e167 (hb hby d_jdk_65m120_30) (q := 31) rfl ?_
  refine iL X167 hx (hb hby d_jdk_65m120_31) (q := 32) rfl rfl ?_
  have f170 : Old Z Z.heap.size h167 := O0.ext E167
  refine g_st X167 hx hZ0 hown0 (wd229 hw) (wd230 hw) (wd201 hw) (wd231 hw) (by decide) e167 (Con.back (W := 4) (rm_min2 l Z a0 hw zC SC PC aE SE aD SD aM SM mO MO  h167 f170 ) hZ0 (wd231 hw) (wd201 hw) (by decide) (by decide)) (by rw [hml]; rfl) (lenOf pd1 rfl) rfl (Nat.le_of_eq rfl) (hb hby d_jdk_65m120_32) (q := 35) rfl (by decide) (by decide) ?_
  intro v169 T169 L169 X169 Q169
  obtain ⟨rfl, Nq169, e169⟩ := Q169
  have N169 := Fr.app N0 Nq169
  show Go _ _ _ _ (T169.setTop (mkF m 35 #[.val (.ref r), .val (.int (2 : Int32)), .val (.ref mO), .val (.ref b167)] [(.int (2 : Int32)), (.int (0 : Int32)), (.ref b167), (.int (0 : Int32)), (.ref r)]))
  have f172 : Exa Z h167 x1 "com/example/quaymark/quaymark/Review$LeftOut" := PX1.ext E167
  have f173 : Exa Z h167 x0 "com/example/quaymark/quaymark/Review$LeftOut" := PX0.ext E167
  have gz174 : Z.heap.size ≤ b167 := Nat.le_trans O0.2.1 (Nat.le_of_eq g167.symm)
  refine g_cp X169 hx hZ0 hown0 (wd232 hw) (wd235 hw) (wd233 hw) (wd234 hw) (us := [(.ref x0), (.ref x1)]) f168 Va167 (Or.inr ⟨rfl, rfl, ⟨(sto_arv Va167 O167 (Ins.of_exa f173 (wd205 hw))), ⟨(sto_arv Va167 O167 (Ins.of_exa f172 (wd205 hw))), trivial⟩⟩⟩) (by decide) (by decide) (by decide) (by decide) (by decide) rfl (Nat.le_of_ble_eq_true rfl) N169 gz174 (by rw [hml]; rfl) (by decide) (W := 0) (Nat.le_of_eq rfl) (by decide) e169 (hb hby d_jdk_65m120_35) (q := 38) rfl ?_
  intro T171 h171 L171 X171 e171 N171 K171q V171
  have Va171 : Arv Z h171 b167 k167 (.object "java/lang/Object") (2 : Int32) [(.ref x0), (.ref x1)] .null := V171
  refine aL X171 hx (hb hby d_jdk_65m120_38) (q := 39) rfl rfl rfl ?_
  have K175 : Keep h0 h167 [] := (Keep.refl h0 []).ext E167
  have gh176 : h0.size ≤ b167 := Nat.le_trans (Nat.le_refl _) (Nat.le_of_eq g167.symm)
  have K177 : Keep h0 h171 [] := K175.trans K171q (allS (Or.inr gh176) all0)
  refine endP X171 hlk (fun h => by rw [hret] at h; cases h) (lastA X171 hx hret rfl rfl rfl (hb hby d_jdk_65m120_39)) ?_ (by decide) (by decide)
  rw [e171]
  exact ⟨b167, k167, rfl, N171, K177, gh176, Va171⟩
def Q_cp2 (Z : State) (zC : Int32) (aE : Addr) (aD : Addr) (aM : Addr) (mO : Addr) (r : Addr) (kr : ClassId) (x0 : Addr) (x1 : Addr) (h0 : Heap) (v : Option Value) (h : Heap) (L : List Loc) : Prop := ∃ (c : Addr), ∃ (kc : ClassId), v = some (.ref c) ∧ Fr Z.heap.size L ∧ Keep h0 h [] ∧ h0.size ≤ c ∧ Arv Z h c kc (.object "java/lang/Object") (2 : Int32) [(.ref x0), (.ref x1)] .null
theorem rm_cp2 (l : Launch) (Z : State) (a0 : Array Value) (hw : HW a0 Z) (zC : Int32) (SC : tSC Z zC) (PC : ¬ zC = (0 : Int32)) (aE : Addr) (SE : tSE Z aE) (aD : Addr) (SD : tSD Z aD) (aM : Addr) (SM : tSM Z aM) (mO : Addr) (MO : tMO Z mO) (r : Addr) (kr : ClassId) (x0 : Addr) (x1 : Addr) (h0 : Heap) (O0 : Old Z Z.heap.size h0) (P1 : Arv Z h0 r kr (.object "java/lang/Object") (10 : Int32) [(.ref x0), (.ref x1), .null, .null, .null, .null, .null, .null, .null, .null] .null) (P2 : Exa Z h0 r "[Ljava/lang/Object;") (PX0 : Exa Z h0 x0 "com/example/quaymark/quaymark/Review$LeftOut") (PX1 : Exa Z h0 x1 "com/example/quaymark/quaymark/Review$LeftOut") :
    Con l Z (⟨"java/util/Arrays", "copyOf", "([Ljava/lang/Object;I)[Ljava/lang/Object;"⟩ : MethodName) jdk_65_method_119_code 2 (some (.array (.object "java/lang/Object"))) ({ frames := 2, cells := 1, slots := 2, locals := 46 } : Room) #[(.ref r), (.int (2 : Int32))] h0 (Q_cp2 Z zC aE aD aM mO r kr x0 x1 h0) := by
  refine Con.intro (plainFor_of_name pn8) ?_
  intro p e s m below meth c T0 X0 hx hby hml hown0 hnm hret hlk hZ0 e0
  have N0 := Fr.nil Z.heap.size
  refine castGo (g' := mkF m 0 #[.val (.ref r), .val (.int (2 : Int32))] []) (by first | rfl | (simp [entryFrame, mkF, argsToLocals, Value.category]; done)) ?_
  show Go _ _ _ _ (T0.setTop (mkF m 0 #[.val (.ref r), .val (.int (2 : Int32))] []))
  refine aL X0 hx (hb hby d_jdk_65m119_0) (q := 1) rfl rfl rfl ?_
  refine iL X0 hx (hb hby d_jdk_65m119_1) (q := 2) rfl rfl ?_
  refine aL X0 hx (hb hby d_jdk_65m119_2) (q := 3) rfl rfl rfl ?_
  refine g_gcls X0 hx hZ0 hown0 (wd218 hw) (wd219 hw) (wd91 hw) (wd221 hw) (wd220 hw) (wd222 hw) P2 MO (by rw [hml]; rfl) (by decide) (W := 2) (Nat.le_of_eq rfl) (by decide) e0 (hb hby d_jdk_65m119_3) (q := 6) rfl ?_
  intro T178 X178 e178
  refine g_st X178 hx hZ0 hown0 (wd224 hw) (wd225 hw) (wd216 hw) (wd226 hw) (by decide) e178 (Con.back (W := 0) (rm_cpc2 l Z a0 hw zC SC PC aE SE aD SD aM SM mO MO r kr x0 x1 h0 O0 P1 P2 PX0 PX1) hZ0 (wd226 hw) (wd216 hw) (by decide) (by decide)) (by rw [hml]; rfl) (lenOf pd5 rfl) rfl (Nat.le_of_eq rfl) (hb hby d_jdk_65m119_6) (q := 9) rfl (by decide) (by decide) ?_
  intro v179 T179 L179 X179 Q179
  obtain ⟨c_179, kc_179, rfl, Nq179, K179q, q179_0, q179_1⟩ := Q179
  have N179 := Fr.app N0 Nq179
  show Go _ _ _ _ (T179.setTop (mkF m 9 #[.val (.ref r), .val (.int (2 : Int32))] [(.ref c_179)]))
  have K180 : Keep h0 T179.heap [] := (Keep.refl h0 []).trans K179q all0
  have gh181 : h0.size ≤ c_179 := Nat.le_trans (Nat.le_refl _) q179_0
  refine endP X179 hlk (fun h => by rw [hret] at h; cases h) (lastA X179 hx hret rfl rfl rfl (hb hby d_jdk_65m119_9)) ?_ (by decide) (by decide)
  exact ⟨c_179, kc_179, rfl, N179, K180, gh181, q179_1⟩
def Q_toarr2 (Z : State) (zC : Int32) (aE : Addr) (aD : Addr) (aM : Addr) (mO : Addr) (a1 : Addr) (r : Addr) (kr : ClassId) (x0 : Addr) (x1 : Addr) (h0 : Heap) (v : Option Value) (h : Heap) (L : List Loc) : Prop := ∃ (c : Addr), ∃ (kc : ClassId), v = some (.ref c) ∧ Fr Z.heap.size L ∧ Keep h0 h [] ∧ h0.size ≤ c ∧ Arv Z h c kc (.object "java/lang/Object") (2 : Int32) [(.ref x0), (.ref x1)] .null
theorem rm_toarr2 (l : Launch) (Z : State) (a0 : Array Value) (hw : HW a0 Z) (zC : Int32) (SC : tSC Z zC) (PC : ¬ zC = (0 : Int32)) (aE : Addr) (SE : tSE Z aE) (aD : Addr) (SD : tSD Z aD) (aM : Addr) (SM : tSM Z aM) (mO : Addr) (MO : tMO Z mO) (a1 : Addr) (r : Addr) (kr : ClassId) (x0 : Addr) (x1 : Addr) (h0 : Heap) (O0 : Old Z Z.heap.size h0) (P3 : Exa Z h0 a1 "java/util/ArrayList") (P4 : Fld Z h0 a1 "java/util/ArrayList" "size" "I" (.int (2 : Int32))) (P5 : Fld Z h0 a1 "java/util/ArrayList" "elementData" "[Ljava/lang/Object;" (.ref r)) (P1 : Arv Z h0 r kr (.object "java/lang/Object") (10 : Int32) [(.ref x0), (.ref x1), .null, .null, .null, .null, .null, .null, .null, .null] .null) (P2 : Exa Z h0 r "[Ljava/lang/Object;") (PX0 : Exa Z h0 x0 "com/example/quaymark/quaymark/Review$LeftOut") (PX1 : Exa Z h0 x1 "com/example/quaymark/quaymark/Review$LeftOut") :
    Con l Z (⟨"java/util/ArrayList", "toArray", "()[Ljava/lang/Object;"⟩ : MethodName) jdk_38_method_16_code 1 (some (.array (.object "java/lang/Object"))) ({ frames := 3, cells := 1, slots := 2, locals := 59 } : Room) #[(.ref a1)] h0 (Q_toarr2 Z zC aE aD aM mO a1 r kr x0 x1 h0) := by
  refine Con.intro (plainFor_of_name pn3) ?_
  intro p e s m below meth c T0 X0 hx hby hml hown0 hnm hret hlk hZ0 e0
  have N0 := Fr.nil Z.heap.size
  refine castGo (g' := mkF m 0 #[.val (.ref a1)] []) (by first | rfl | (simp [entryFrame, mkF, argsToLocals, Value.category]; done)) ?_
  show Go _ _ _ _ (T0.setTop (mkF m 0 #[.val (.ref a1)] []))
  refine aL X0 hx (hb hby d_jdk_38m16_0) (q := 1) rfl rfl rfl ?_
  refine g_getF X0 hx hZ0 hown0 (host := "") (Or.inl (wd70 hw)) Via.refl P5 e0 (hb hby d_jdk_38m16_1) (q := 4) rfl ?_
  intro T182 X182 e182
  refine aL X182 hx (hb hby d_jdk_38m16_4) (q := 5) rfl rfl rfl ?_
  refine g_getF X182 hx hZ0 hown0 (host := "") (Or.inl (wd102 hw)) Via.refl P4 e182 (hb hby d_jdk_38m16_5) (q := 8) rfl ?_
  intro T183 X183 e183
  refine g_st X183 hx hZ0 hown0 (wd214 hw) (wd215 hw) (wd216 hw) (wd217 hw) (by decide) e183 (Con.back (W := 0) (rm_cp2 l Z a0 hw zC SC PC aE SE aD SD aM SM mO MO r kr x0 x1 h0 O0 P1 P2 PX0 PX1) hZ0 (wd217 hw) (wd216 hw) (by decide) (by decide)) (by rw [hml]; rfl) (lenOf pd6 rfl) rfl (Nat.le_of_eq rfl) (hb hby d_jdk_38m16_8) (q := 11) rfl (by decide) (by decide) ?_
  intro v184 T184 L184 X184 Q184
  obtain ⟨c_184, kc_184, rfl, Nq184, K184q, q184_0, q184_1⟩ := Q184
  have N184 := Fr.app N0 Nq184
  show Go _ _ _ _ (T184.setTop (mkF m 11 #[.val (.ref a1)] [(.ref c_184)]))
  have K185 : Keep h0 T184.heap [] := (Keep.refl h0 []).trans K184q all0
  have gh186 : h0.size ≤ c_184 := Nat.le_trans (Nat.le_refl _) q184_0
  refine endP X184 hlk (fun h => by rw [hret] at h; cases h) (lastA X184 hx hret rfl rfl rfl (hb hby d_jdk_38m16_11)) ?_ (by decide) (by decide)
  exact ⟨c_184, kc_184, rfl, N184, K185, gh186, q184_1⟩
theorem d_jdk_47m1_0 : decode jdk_47_method_1_code 0 = .ok (.aload_n 0, 1) := by decide +kernel
theorem d_jdk_47m1_1 : decode jdk_47_method_1_code 1 = .ok (.invokespecial 1, 3) := by decide +kernel
theorem wd258 {a0 : Array Value} {Z : State} (hw : HW a0 Z) : ((Jvm.Cond.methodLink "java/util/ImmutableCollections$AbstractImmutableCollection" (1 : Nat) ({ cls := "java/util/AbstractCollection", name := "<init>", desc := "()V" } : Jvm.MethodName)) : Jvm.Cond).before a0 Z = true := hw _ (List.mem_of_getElem? (i := 258) rfl)
theorem d_jdk_47m1_4 : decode jdk_47_method_1_code 4 = .ok (.return_, 1) := by decide +kernel
def Q_aicinit (Z : State) (zC : Int32) (aE : Addr) (aD : Addr) (aM : Addr) (mO : Addr) (a1 : Addr) (h0 : Heap) (v : Option Value) (h : Heap) (L : List Loc) : Prop := v = none ∧ Fr Z.heap.size L ∧ h = h0
theorem pn9 : plainName "java/util/ImmutableCollections$AbstractImmutableCollection" = true := by first | (simp [plainName, overriddenIn]; done) | decide +kernel
theorem rm_aicinit (l : Launch) (Z : State) (a0 : Array Value) (hw : HW a0 Z) (zC : Int32) (SC : tSC Z zC) (PC : ¬ zC = (0 : Int32)) (aE : Addr) (SE : tSE Z aE) (aD : Addr) (SD : tSD Z aD) (aM : Addr) (SM : tSM Z aM) (mO : Addr) (MO : tMO Z mO) (a1 : Addr) (h0 : Heap) (O0 : Old Z Z.heap.size h0)  :
    Con l Z (⟨"java/util/ImmutableCollections$AbstractImmutableCollection", "<init>", "()V"⟩ : MethodName) jdk_47_method_1_code 1 none ({ frames := 2, cells := 0, slots := 0, locals := 24 } : Room) #[(.ref a1)] h0 (Q_aicinit Z zC aE aD aM mO a1 h0) := by
  refine Con.intro (plainFor_of_name pn9) ?_
  intro p e s m below meth c T0 X0 hx hby hml hown0 hnm hret hlk hZ0 e0
  have N0 := Fr.nil Z.heap.size
  refine castGo (g' := mkF m 0 #[.val (.ref a1)] []) (by first | rfl | (simp [entryFrame, mkF, argsToLocals, Value.category]; done)) ?_
  show Go _ _ _ _ (T0.setTop (mkF m 0 #[.val (.ref a1)] []))
  refine aL X0 hx (hb hby d_jdk_47m1_0) (q := 1) rfl rfl rfl ?_
  refine g_sp X0 hx hZ0 hown0 (wd258 hw) (wd61 hw) (wd65 hw) rfl (by decide) e0 (Con.back (W := 0) (rm_abcinit l Z a0 hw zC SC PC aE SE aD SD aM SM mO MO a1 h0 O0 ) hZ0 (wd65 hw) (wd64 hw) (by decide) (by decide)) (by rw [hml]; rfl) (lenOf pd0 rfl) rfl (Nat.le_of_eq rfl) (hb hby d_jdk_47m1_1) (q := 4) rfl (by decide) (by decide) ?_
  intro v187 T187 L187 X187 Q187
  obtain ⟨rfl, Nq187, e187⟩ := Q187
  have N187 := Fr.app N0 Nq187
  show Go _ _ _ _ (T187.setTop (mkF m 4 #[.val (.ref a1)] []))
  refine endP X187 hlk (fun _ => rfl) (lastV X187 hx hret (hb hby d_jdk_47m1_4)) ?_ (by decide) (by decide)
  rw [e187]
  exact ⟨rfl, N187, rfl⟩
theorem d_jdk_46m1_0 : decode jdk_46_method_1_code 0 = .ok (.aload_n 0, 1) := by decide +kernel
theorem d_jdk_46m1_1 : decode jdk_46_method_1_code 1 = .ok (.invokespecial 1, 3) := by decide +kernel
theorem wd257 {a0 : Array Value} {Z : State} (hw : HW a0 Z) : ((Jvm.Cond.code ({ cls := "java/util/ImmutableCollections$AbstractImmutableCollection", name := "<init>", desc := "()V" } : Jvm.MethodName) jdk_47_method_1_code (1 : Nat) (Option.none : Option Jvm.ClassFile.FieldType)) : Jvm.Cond).before a0 Z = true := hw _ (List.mem_of_getElem? (i := 257) rfl)
theorem wd256 {a0 : Array Value} {Z : State} (hw : HW a0 Z) : ((Jvm.Cond.initialized "java/util/ImmutableCollections$AbstractImmutableCollection") : Jvm.Cond).before a0 Z = true := hw _ (List.mem_of_getElem? (i := 256) rfl)
theorem wd252 {a0 : Array Value} {Z : State} (hw : HW a0 Z) : ((Jvm.Cond.methodLink "java/util/ImmutableCollections$AbstractImmutableList" (1 : Nat) ({ cls := "java/util/ImmutableCollections$AbstractImmutableCollection", name := "<init>", desc := "()V" } : Jvm.MethodName)) : Jvm.Cond).before a0 Z = true := hw _ (List.mem_of_getElem? (i := 252) rfl)
theorem wd253 {a0 : Array Value} {Z : State} (hw : HW a0 Z) : ((Jvm.Cond.instanceMethod ({ cls := "java/util/ImmutableCollections$AbstractImmutableCollection", name := "<init>", desc := "()V" } : Jvm.MethodName)) : Jvm.Cond).before a0 Z = true := hw _ (List.mem_of_getElem? (i := 253) rfl)
theorem d_jdk_46m1_4 : decode jdk_46_method_1_code 4 = .ok (.return_, 1) := by decide +kernel
def Q_ailinit (Z : State) (zC : Int32) (aE : Addr) (aD : Addr) (aM : Addr) (mO : Addr) (a1 : Addr) (h0 : Heap) (v : Option Value) (h : Heap) (L : List Loc) : Prop := v = none ∧ Fr Z.heap.size L ∧ h = h0
theorem pn10 : plainName "java/util/ImmutableCollections$AbstractImmutableList" = true := by first | (simp [plainName, overriddenIn]; done) | decide +kernel
theorem rm_ailinit (l : Launch) (Z : State) (a0 : Array Value) (hw : HW a0 Z) (zC : Int32) (SC : tSC Z zC) (PC : ¬ zC = (0 : Int32)) (aE : Addr) (SE : tSE Z aE) (aD : Addr) (SD : tSD Z aD) (aM : Addr) (SM : tSM Z aM) (mO : Addr) (MO : tMO Z mO) (a1 : Addr) (h0 : Heap) (O0 : Old Z Z.heap.size h0)  :
    Con l Z (⟨"java/util/ImmutableCollections$AbstractImmutableList", "<init>", "()V"⟩ : MethodName) jdk_46_method_1_code 1 none ({ frames := 3, cells := 0, slots := 0, locals := 36 } : Room) #[(.ref a1)] h0 (Q_ailinit Z zC aE aD aM mO a1 h0) := by
  refine Con.intro (plainFor_of_name pn10) ?_
  intro p e s m below meth c T0 X0 hx hby hml hown0 hnm hret hlk hZ0 e0
  have N0 := Fr.nil Z.heap.size
  refine castGo (g' := mkF m 0 #[.val (.ref a1)] []) (by first | rfl | (simp [entryFrame, mkF, argsToLocals, Value.category]; done)) ?_
  show Go _ _ _ _ (T0.setTop (mkF m 0 #[.val (.ref a1)] []))
  refine aL X0 hx (hb hby d_jdk_46m1_0) (q := 1) rfl rfl rfl ?_
  refine g_sp X0 hx hZ0 hown0 (wd252 hw) (wd253 hw) (wd257 hw) rfl (by decide) e0 (Con.back (W := 0) (rm_aicinit l Z a0 hw zC SC PC aE SE aD SD aM SM mO MO a1 h0 O0 ) hZ0 (wd257 hw) (wd256 hw) (by decide) (by decide)) (by rw [hml]; rfl) (lenOf pd0 rfl) rfl (Nat.le_of_eq rfl) (hb hby d_jdk_46m1_1) (q := 4) rfl (by decide) (by decide) ?_
  intro v188 T188 L188 X188 Q188
  obtain ⟨rfl, Nq188, e188⟩ := Q188
  have N188 := Fr.app N0 Nq188
  show Go _ _ _ _ (T188.setTop (mkF m 4 #[.val (.ref a1)] []))
  refine endP X188 hlk (fun _ => rfl) (lastV X188 hx hret (hb hby d_jdk_46m1_4)) ?_ (by decide) (by decide)
  rw [e188]
  exact ⟨rfl, N188, rfl⟩
theorem d_jdk_31m10_0 : decode jdk_31_method_10_code 0 = .ok (.aload_n 0, 1) := by decide +kernel
theorem d_jdk_31m10_1 : decode jdk_31_method_10_code 1 = .ok (.ifnonnull 11, 3) := by decide +kernel
theorem d_jdk_31m10_12 : decode jdk_31_method_10_code 12 = .ok (.aload_n 0, 1) := by decide +kernel
theorem d_jdk_31m10_13 : decode jdk_31_method_10_code 13 = .ok (.areturn, 1) := by decide +kernel
def Q_rnn1 (Z : State) (zC : Int32) (aE : Addr) (aD : Addr) (aM : Addr) (mO : Addr) (a1 : Addr) (h0 : Heap) (v : Option Value) (h : Heap) (L : List Loc) : Prop := v = some (.ref a1) ∧ Fr Z.heap.size L ∧ h = h0
theorem pn11 : plainName "java/util/Objects" = true := by first | (simp [plainName, overriddenIn]; done) | decide +kernel
theorem rm_rnn1 (l : Launch) (Z : State) (a0 : Array Value) (hw : HW a0 Z) (zC : Int32) (SC : tSC Z zC) (PC : ¬ zC = (0 : Int32)) (aE : Addr) (SE : tSE Z aE) (aD : Addr) (SD : tSD Z aD) (aM : Addr) (SM : tSM Z aM) (mO : Addr) (MO : tMO Z mO) (a1 : Addr) (h0 : Heap) (O0 : Old Z Z.heap.size h0)  :
    Con l Z (⟨"java/util/Objects", "requireNonNull", "(Ljava/lang/Object;)Ljava/lang/Object;"⟩ : MethodName) jdk_31_method_10_code 1 (some (.object "java/lang/Object")) ({ frames := 0, cells := 0, slots := 0, locals := 0 } : Room) #[(.ref a1)] h0 (Q_rnn1 Z zC aE aD aM mO a1 h0) := by
  refine Con.intro (plainFor_of_name pn11) ?_
  intro p e s m below meth c T0 X0 hx hby hml hown0 hnm hret hlk hZ0 e0
  have N0 := Fr.nil Z.heap.size
  refine castGo (g' := mkF m 0 #[.val (.ref a1)] []) (by first | rfl | (simp [entryFrame, mkF, argsToLocals, Value.category]; done)) ?_
  show Go _ _ _ _ (T0.setTop (mkF m 0 #[.val (.ref a1)] []))
  refine aL X0 hx (hb hby d_jdk_31m10_0) (q := 1) rfl rfl rfl ?_
  refine nnY X0 hx (hb hby d_jdk_31m10_1) (q := 12) (by decide) (by decide) ?_
  refine aL X0 hx (hb hby d_jdk_31m10_12) (q := 13) rfl rfl rfl ?_
  refine endP X0 hlk (fun h => by rw [hret] at h; cases h) (lastA X0 hx hret rfl rfl rfl (hb hby d_jdk_31m10_13)) ?_ (by decide) (by decide)
  rw [e0]
  exact ⟨rfl, N0, rfl⟩
theorem d_jdk_44m1_0 : decode jdk_44_method_1_code 0 = .ok (.aload_n 0, 1) := by decide +kernel
theorem d_jdk_44m1_1 : decode jdk_44_method_1_code 1 = .ok (.invokespecial 1, 3) := by decide +kernel
theorem wd251 {a0 : Array Value} {Z : State} (hw : HW a0 Z) : ((Jvm.Cond.code ({ cls := "java/util/ImmutableCollections$AbstractImmutableList", name := "<init>", desc := "()V" } : Jvm.MethodName) jdk_46_method_1_code (1 : Nat) (Option.none : Option Jvm.ClassFile.FieldType)) : Jvm.Cond).before a0 Z = true := hw _ (List.mem_of_getElem? (i := 251) rfl)
theorem wd250 {a0 : Array Value} {Z : State} (hw : HW a0 Z) : ((Jvm.Cond.initialized "java/util/ImmutableCollections$AbstractImmutableList") : Jvm.Cond).before a0 Z = true := hw _ (List.mem_of_getElem? (i := 250) rfl)
theorem wd246 {a0 : Array Value} {Z : State} (hw : HW a0 Z) : ((Jvm.Cond.methodLink "java/util/ImmutableCollections$List12" (1 : Nat) ({ cls := "java/util/ImmutableCollections$AbstractImmutableList", name := "<init>", desc := "()V" } : Jvm.MethodName)) : Jvm.Cond).before a0 Z = true := hw _ (List.mem_of_getElem? (i := 246) rfl)
theorem wd247 {a0 : Array Value} {Z : State} (hw : HW a0 Z) : ((Jvm.Cond.instanceMethod ({ cls := "java/util/ImmutableCollections$AbstractImmutableList", name := "<init>", desc := "()V" } : Jvm.MethodName)) : Jvm.Cond).before a0 Z = true := hw _ (List.mem_of_getElem? (i := 247) rfl)
theorem d_jdk_44m1_4 : decode jdk_44_method_1_code 4 = .ok (.aload_n 0, 1) := by decide +kernel
theorem d_jdk_44m1_5 : decode jdk_44_method_1_code 5 = .ok (.aload_n 1, 1) := by decide +kernel
theorem d_jdk_44m1_6 : decode jdk_44_method_1_code 6 = .ok (.invokestatic 7, 3) := by decide +kernel
theorem wd263 {a0 : Array Value} {Z : State} (hw : HW a0 Z) : ((Jvm.Cond.code ({ cls := "java/util/Objects", name := "requireNonNull", desc := "(Ljava/lang/Object;)Ljava/lang/Object;" } : Jvm.MethodName) jdk_31_method_10_code (1 : Nat) (Option.some (Jvm.ClassFile.FieldType.object "java/lang/Object"))) : Jvm.Cond).before a0 Z = true := hw _ (List.mem_of_getElem? (i := 263) rfl)
theorem wd262 {a0 : Array Value} {Z : State} (hw : HW a0 Z) : ((Jvm.Cond.initialized "java/util/Objects") : Jvm.Cond).before a0 Z = true := hw _ (List.mem_of_getElem? (i := 262) rfl)
theorem pd7 : parseMethodDescriptor "(Ljava/lang/Object;)Ljava/lang/Object;" = some ⟨[(.object "java/lang/Object")], some (.object "java/lang/Object")⟩ := by decide +kernel
theorem wd260 {a0 : Array Value} {Z : State} (hw : HW a0 Z) : ((Jvm.Cond.methodLink "java/util/ImmutableCollections$List12" (7 : Nat) ({ cls := "java/util/Objects", name := "requireNonNull", desc := "(Ljava/lang/Object;)Ljava/lang/Object;" } : Jvm.MethodName)) : Jvm.Cond).before a0 Z = true := hw _ (List.mem_of_getElem? (i := 260) rfl)
theorem wd261 {a0 : Array Value} {Z : State} (hw : HW a0 Z) : ((Jvm.Cond.static ({ cls := "java/util/Objects", name := "requireNonNull", desc := "(Ljava/lang/Object;)Ljava/lang/Object;" } : Jvm.MethodName)) : Jvm.Cond).before a0 Z = true := hw _ (List.mem_of_getElem? (i := 261) rfl)
theorem d_jdk_44m1_9 : decode jdk_44_method_1_code 9 = .ok (.putfield 13, 3) := by decide +kernel
theorem wd264 {a0 : Array Value} {Z : State} (hw : HW a0 Z) : ((Jvm.Cond.fieldLink "java/util/ImmutableCollections$List12" (13 : Nat) "java/util/ImmutableCollections$List12" "e0" "Ljava/lang/Object;") : Jvm.Cond).before a0 Z = true := hw _ (List.mem_of_getElem? (i := 264) rfl)
theorem wd265 {a0 : Array Value} {Z : State} (hw : HW a0 Z) : ((Jvm.Cond.laysFinal "java/util/ImmutableCollections$List12" "java/util/ImmutableCollections$List12" "e0" "Ljava/lang/Object;") : Jvm.Cond).before a0 Z = true := hw _ (List.mem_of_getElem? (i := 265) rfl)
theorem wd240 {a0 : Array Value} {Z : State} (hw : HW a0 Z) : ((Jvm.Cond.instantiable "java/util/ImmutableCollections$List12" (2 : Nat)) : Jvm.Cond).before a0 Z = true := hw _ (List.mem_of_getElem? (i := 240) rfl)
theorem d_jdk_44m1_12 : decode jdk_44_method_1_code 12 = .ok (.aload_n 0, 1) := by decide +kernel
theorem d_jdk_44m1_13 : decode jdk_44_method_1_code 13 = .ok (.getstatic 19, 3) := by decide +kernel
theorem wd274 {a0 : Array Value} {Z : State} (hw : HW a0 Z) : ((Jvm.Cond.fieldLinkNest "java/util/ImmutableCollections$List12" (19 : Nat) "java/util/ImmutableCollections" "EMPTY" "Ljava/lang/Object;" "java/util/ImmutableCollections") : Jvm.Cond).before a0 Z = true := hw _ (List.mem_of_getElem? (i := 274) rfl)
theorem d_jdk_44m1_16 : decode jdk_44_method_1_code 16 = .ok (.putfield 24, 3) := by decide +kernel
theorem wd266 {a0 : Array Value} {Z : State} (hw : HW a0 Z) : ((Jvm.Cond.fieldLink "java/util/ImmutableCollections$List12" (24 : Nat) "java/util/ImmutableCollections$List12" "e1" "Ljava/lang/Object;") : Jvm.Cond).before a0 Z = true := hw _ (List.mem_of_getElem? (i := 266) rfl)
theorem wd267 {a0 : Array Value} {Z : State} (hw : HW a0 Z) : ((Jvm.Cond.laysFinal "java/util/ImmutableCollections$List12" "java/util/ImmutableCollections$List12" "e1" "Ljava/lang/Object;") : Jvm.Cond).before a0 Z = true := hw _ (List.mem_of_getElem? (i := 267) rfl)
theorem d_jdk_44m1_19 : decode jdk_44_method_1_code 19 = .ok (.return_, 1) := by decide +kernel
def Q_l12a (Z : State) (zC : Int32) (aE : Addr) (aD : Addr) (aM : Addr) (mO : Addr) (a1 : Addr) (x0 : Addr) (h0 : Heap) (v : Option Value) (h : Heap) (L : List Loc) : Prop := v = none ∧ Fr Z.heap.size L ∧ Keep h0 h [a1] ∧ Exa Z h a1 "java/util/ImmutableCollections$List12" ∧ Fld Z h a1 "java/util/ImmutableCollections$List12" "e0" "Ljava/lang/Object;" (.ref x0) ∧ Fld Z h a1 "java/util/ImmutableCollections$List12" "e1" "Ljava/lang/Object;" (.ref aM)
theorem pn12 : plainName "java/util/ImmutableCollections$List12" = true := by first | (simp [plainName, overriddenIn]; done) | decide +kernel
theorem rm_l12a (l : Launch) (Z : State) (a0 : Array Value) (hw : HW a0 Z) (zC : Int32) (SC : tSC Z zC) (PC : ¬ zC = (0 : Int32)) (aE : Addr) (SE : tSE Z aE) (aD : Addr) (SD : tSD Z aD) (aM : Addr) (SM : tSM Z aM) (mO : Addr) (MO : tMO Z mO) (a1 : Addr) (x0 : Addr) (h0 : Heap) (O0 : Old Z Z.heap.size h0) (P1 : Exa Z h0 a1 "java/util/ImmutableCollections$List12") (P2 : Fld Z h0 a1 "java/util/ImmutableCollections$List12" "e0" "Ljava/lang/Object;" .null) (P3 : Fld Z h0 a1 "java/util/ImmutableCollections$List12" "e1" "Ljava/lang/Object;" .null) (P4 : Z.heap.size ≤ a1) :
    Con l Z (⟨"java/util/ImmutableCollections$List12", "<init>", "(Ljava/lang/Object;)V"⟩ : MethodName) jdk_44_method_1_code 2 none ({ frames := 4, cells := 0, slots := 0, locals := 48 } : Room) #[(.ref a1), (.ref x0)] h0 (Q_l12a Z zC aE aD aM mO a1 x0 h0) := by
  refine Con.intro (plainFor_of_name pn12) ?_
  intro p e s m below meth c T0 X0 hx hby hml hown0 hnm hret hlk hZ0 e0
  have N0 := Fr.nil Z.heap.size
  refine castGo (g' := mkF m 0 #[.val (.ref a1), .val (.ref x0)] []) (by first | rfl | (simp [entryFrame, mkF, argsToLocals, Value.category]; done)) ?_
  show Go _ _ _ _ (T0.setTop (mkF m 0 #[.val (.ref a1), .val (.ref x0)] []))
  refine aL X0 hx (hb hby d_jdk_44m1_0) (q := 1) rfl rfl rfl ?_
  refine g_sp X0 hx hZ0 hown0 (wd246 hw) (wd247 hw) (wd251 hw) rfl (by decide) e0 (Con.back (W := 0) (rm_ailinit l Z a0 hw zC SC PC aE SE aD SD aM SM mO MO a1 h0 O0 ) hZ0 (wd251 hw) (wd250 hw) (by decide) (by decide)) (by rw [hml]; rfl) (lenOf pd0 rfl) rfl (Nat.le_of_eq rfl) (hb hby d_jdk_44m1_1) (q := 4) rfl (by decide) (by decide) ?_
  intro v189 T189 L189 X189 Q189
  obtain ⟨rfl, Nq189, e189⟩ := Q189
  have N189 := Fr.app N0 Nq189
  show Go _ _ _ _ (T189.setTop (mkF m 4 #[.val (.ref a1), .val (.ref x0)] []))
  refine aL X189 hx (hb hby d_jdk_44m1_4) (q := 5) rfl rfl rfl ?_
  refine aL X189 hx (hb hby d_jdk_44m1_5) (q := 6) rfl rfl rfl ?_
  refine g_st X189 hx hZ0 hown0 (wd260 hw) (wd261 hw) (wd262 hw) (wd263 hw) (by decide) e189 (Con.back (W := 1) (rm_rnn1 l Z a0 hw zC SC PC aE SE aD SD aM SM mO MO x0 h0 O0 ) hZ0 (wd263 hw) (wd262 hw) (by decide) (by decide)) (by rw [hml]; rfl) (lenOf pd7 rfl) rfl (Nat.le_of_eq rfl) (hb hby d_jdk_44m1_6) (q := 9) rfl (by decide) (by decide) ?_
  intro v190 T190 L190 X190 Q190
  obtain ⟨rfl, Nq190, e190⟩ := Q190
  have N190 := Fr.app N189 Nq190
  show Go _ _ _ _ (T190.setTop (mkF m 9 #[.val (.ref a1), .val (.ref x0)] [(.ref x0), (.ref a1)]))
  refine g_putF X190 hx hZ0 hown0 (host := "") (Or.inl (wd264 hw)) Via.refl P2 P1 (Or.inr ⟨(wd265 hw), rfl, hnm⟩) (wd240 hw) (ty := (.object "java/lang/Object")) (by decide) rfl rfl e190 (hb hby d_jdk_44m1_9) (q := 12) rfl ?_
  intro T191 h191 X191 e191 W191
  have N191 := Fr.snoc X191 N190 P4
  have Fw191 : Fld Z h191 a1 "java/util/ImmutableCollections$List12" "e0" "Ljava/lang/Object;" (.ref x0) := P2.same W191
  refine aL X191 hx (hb hby d_jdk_44m1_12) (q := 13) rfl rfl rfl ?_
  have f193 : Old Z Z.heap.size h191 := O0.wr W191 P4
  refine g_getS X191 hx hZ0 hown0 (Or.inr (wd274 hw)) Via.refl (SM.ext f193.2) e191 (hb hby d_jdk_44m1_13) (q := 16) rfl ?_
  intro T192 X192 e192
  have f194 : Fld Z h191 a1 "java/util/ImmutableCollections$List12" "e1" "Ljava/lang/Object;" .null := P3.other W191 (Or.inr (slot_ne (Or.inr (wd267 hw)) (Or.inr (wd265 hw)) (by decide) (t := (.object "java/lang/Object")) (t' := (.object "java/lang/Object")) (by decide) (by decide)))
  have f195 : Exa Z h191 a1 "java/util/ImmutableCollections$List12" := P1.wr W191
  refine g_putF X192 hx hZ0 hown0 (host := "") (Or.inl (wd266 hw)) Via.refl f194 f195 (Or.inr ⟨(wd267 hw), rfl, hnm⟩) (wd240 hw) (ty := (.object "java/lang/Object")) (by decide) rfl rfl e192 (hb hby d_jdk_44m1_16) (q := 19) rfl ?_
  intro T196 h196 X196 e196 W196
  have N196 := Fr.snoc X196 N191 P4
  have Fw196 : Fld Z h196 a1 "java/util/ImmutableCollections$List12" "e1" "Ljava/lang/Object;" (.ref aM) := f194.same W196
  have K197 : Keep h0 h191 [a1] := (Keep.refl h0 [a1]).wr W191 (Or.inl (by simp))
  have K198 : Keep h0 h196 [a1] := K197.wr W196 (Or.inl (by simp))
  have f199 : Exa Z h196 a1 "java/util/ImmutableCollections$List12" := f195.wr W196
  have f200 : Fld Z h196 a1 "java/util/ImmutableCollections$List12" "e0" "Ljava/lang/Object;" (.ref x0) := Fw191.other W196 (Or.inr (slot_ne (Or.inr (wd265 hw)) (Or.inr (wd267 hw)) (by decide) (t := (.object "java/lang/Object")) (t' := (.object "java/lang/Object")) (by decide) (by decide)))
  refine endP X196 hlk (fun _ => rfl) (lastV X196 hx hret (hb hby d_jdk_44m1_19)) ?_ (by decide) (by decide)
  rw [e196]
  exact ⟨rfl, N196, K198, f199, f200, Fw196⟩
theorem d_jdk_44m2_0 : decode jdk_44_method_2_code 0 = .ok (.aload_n 0, 1) := by decide +kernel
theorem d_jdk_44m2_1 : decode jdk_44_method_2_code 1 = .ok (.invokespecial 1, 3) := by decide +kernel
theorem d_jdk_44m2_4 : decode jdk_44_method_2_code 4 = .ok (.aload_n 0, 1) := by decide +kernel
theorem d_jdk_44m2_5 : decode jdk_44_method_2_code 5 = .ok (.aload_n 1, 1) := by decide +kernel
theorem d_jdk_44m2_6 : decode jdk_44_method_2_code 6 = .ok (.invokestatic 7, 3) := by decide +kernel
theorem d_jdk_44m2_9 : decode jdk_44_method_2_code 9 = .ok (.putfield 13, 3) := by decide +kernel
theorem d_jdk_44m2_12 : decode jdk_44_method_2_code 12 = .ok (.aload_n 0, 1) := by decide +kernel
theorem d_jdk_44m2_13 : decode jdk_44_method_2_code 13 = .ok (.aload_n 2, 1) := by decide +kernel
theorem d_jdk_44m2_14 : decode jdk_44_method_2_code 14 = .ok (.invokestatic 7, 3) := by decide +kernel
theorem d_jdk_44m2_17 : decode jdk_44_method_2_code 17 = .ok (.putfield 24, 3) := by decide +kernel
theorem d_jdk_44m2_20 : decode jdk_44_method_2_code 20 = .ok (.return_, 1) := by decide +kernel
def Q_l12b (Z : State) (zC : Int32) (aE : Addr) (aD : Addr) (aM : Addr) (mO : Addr) (a1 : Addr) (x0 : Addr) (x1 : Addr) (h0 : Heap) (v : Option Value) (h : Heap) (L : List Loc) : Prop := v = none ∧ Fr Z.heap.size L ∧ Keep h0 h [a1] ∧ Exa Z h a1 "java/util/ImmutableCollections$List12" ∧ Fld Z h a1 "java/util/ImmutableCollections$List12" "e0" "Ljava/lang/Object;" (.ref x0) ∧ Fld Z h a1 "java/util/ImmutableCollections$List12" "e1" "Ljava/lang/Object;" (.ref x1)
theorem rm_l12b (l : Launch) (Z : State) (a0 : Array Value) (hw : HW a0 Z) (zC : Int32) (SC : tSC Z zC) (PC : ¬ zC = (0 : Int32)) (aE : Addr) (SE : tSE Z aE) (aD : Addr) (SD : tSD Z aD) (aM : Addr) (SM : tSM Z aM) (mO : Addr) (MO : tMO Z mO) (a1 : Addr) (x0 : Addr) (x1 : Addr) (h0 : Heap) (O0 : Old Z Z.heap.size h0) (P1 : Exa Z h0 a1 "java/util/ImmutableCollections$List12") (P2 : Fld Z h0 a1 "java/util/ImmutableCollections$List12" "e0" "Ljava/lang/Object;" .null) (P3 : Fld Z h0 a1 "java/util/ImmutableCollections$List12" "e1" "Ljava/lang/Object;" .null) (P4 : Z.heap.size ≤ a1) :
    Con l Z (⟨"java/util/ImmutableCollections$List12", "<init>", "(Ljava/lang/Object;Ljava/lang/Object;)V"⟩ : MethodName) jdk_44_method_2_code 3 none ({ frames := 4, cells := 0, slots := 0, locals := 48 } : Room) #[(.ref a1), (.ref x0), (.ref x1)] h0 (Q_l12b Z zC aE aD aM mO a1 x0 x1 h0) := by
  refine Con.intro (plainFor_of_name pn12) ?_
  intro p e s m below meth c T0 X0 hx hby hml hown0 hnm hret hlk hZ0 e0
  have N0 := Fr.nil Z.heap.size
  refine castGo (g' := mkF m 0 #[.val (.ref a1), .val (.ref x0), .val (.ref x1)] []) (by first | rfl | (simp [entryFrame, mkF, argsToLocals, Value.category]; done)) ?_
  show Go _ _ _ _ (T0.setTop (mkF m 0 #[.val (.ref a1), .val (.ref x0), .val (.ref x1)] []))
  refine aL X0 hx (hb hby d_jdk_44m2_0) (q := 1) rfl rfl rfl ?_
  refine g_sp X0 hx hZ0 hown0 (wd246 hw) (wd247 hw) (wd251 hw) rfl (by decide) e0 (Con.back (W := 0) (rm_ailinit l Z a0 hw zC SC PC aE SE aD SD aM SM mO MO a1 h0 O0 ) hZ0 (wd251 hw) (wd250 hw) (by decide) (by decide)) (by rw [hml]; rfl) (lenOf pd0 rfl) rfl (Nat.le_of_eq rfl) (hb hby d_jdk_44m2_1) (q := 4) rfl (by decide) (by decide) ?_
  intro v201 T201 L201 X201 Q201
  obtain ⟨rfl, Nq201, e201⟩ := Q201
  have N201 := Fr.app N0 Nq201
  show Go _ _ _ _ (T201.setTop (mkF m 4 #[.val (.ref a1), .val (.ref x0), .val (.ref x1)] []))
  refine aL X201 hx (hb hby d_jdk_44m2_4) (q := 5) rfl rfl rfl ?_
  refine aL X201 hx (hb hby d_jdk_44m2_5) (q := 6) rfl rfl rfl ?_
  refine g_st X201 hx hZ0 hown0 (wd260 hw) (wd261 hw) (wd262 hw) (wd263 hw) (by decide) e201 (Con.back (W := 1) (rm_rnn1 l Z a0 hw zC SC PC aE SE aD SD aM SM mO MO x0 h0 O0 ) hZ0 (wd263 hw) (wd262 hw) (by decide) (by decide)) (by rw [hml]; rfl) (lenOf pd7 rfl) rfl (Nat.le_of_eq rfl) (hb hby d_jdk_44m2_6) (q := 9) rfl (by decide) (by decide) ?_
  intro v202 T202 L202 X202 Q202
  obtain ⟨rfl, Nq202, e202⟩ := Q202
  have N202 := Fr.app N201 Nq202
  show Go _ _ _ _ (T202.setTop (mkF m 9 #[.val (.ref a1), .val (.ref x0), .val (.ref x1)] [(.ref x0), (.ref a1)]))
  refine g_putF X202 hx hZ0 hown0 (host := "") (Or.inl (wd264 hw)) Via.refl P2 P1 (Or.inr ⟨(wd265 hw), rfl, hnm⟩) (wd240 hw) (ty := (.object "java/lang/Object")) (by decide) rfl rfl e202 (hb hby d_jdk_44m2_9) (q := 12) rfl ?_
  intro T203 h203 X203 e203 W203
  have N203 := Fr.snoc X203 N202 P4
  have Fw203 : Fld Z h203 a1 "java/util/ImmutableCollections$List12" "e0" "Ljava/lang/Object;" (.ref x0) := P2.same W203
  refine aL X203 hx (hb hby d_jdk_44m2_12) (q := 13) rfl rfl rfl ?_
  refine aL X203 hx (hb hby d_jdk_44m2_13) (q := 14) rfl rfl rfl ?_
  have f205 : Old Z Z.heap.size h203 := O0.wr W203 P4
  refine g_st X203 hx hZ0 hown0 (wd260 hw) (wd261 hw) (wd262 hw) (wd263 hw) (by decide) e203 (Con.back (W := 1) (rm_rnn1 l Z a0 hw zC SC PC aE SE aD SD aM SM mO MO x1 h203 f205 ) hZ0 (wd263 hw) (wd262 hw) (by decide) (by decide)) (by rw [hml]; rfl) (lenOf pd7 rfl) rfl (Nat.le_of_eq rfl) (hb hby d_jdk_44m2_14) (q := 17) rfl (by decide) (by decide) ?_
  intro v204 T204 L204 X204 Q204
  obtain ⟨rfl, Nq204, e204⟩ := Q204
  have N204 := Fr.app N203 Nq204
  show Go _ _ _ _ (T204.setTop (mkF m 17 #[.val (.ref a1), .val (.ref x0), .val (.ref x1)] [(.ref x1), (.ref a1)]))
  have f206 : Fld Z h203 a1 "java/util/ImmutableCollections$List12" "e1" "Ljava/lang/Object;" .null := P3.other W203 (Or.inr (slot_ne (Or.inr (wd267 hw)) (Or.inr (wd265 hw)) (by decide) (t := (.object "java/lang/Object")) (t' := (.object "java/lang/Object")) (by decide) (by decide)))
  have f207 : Exa Z h203 a1 "java/util/ImmutableCollections$List12" := P1.wr W203
  refine g_putF X204 hx hZ0 hown0 (host := "") (Or.inl (wd266 hw)) Via.refl f206 f207 (Or.inr ⟨(wd267 hw), rfl, hnm⟩) (wd240 hw) (ty := (.object "java/lang/Object")) (by decide) rfl rfl e204 (hb hby d_jdk_44m2_17) (q := 20) rfl ?_
  intro T208 h208 X208 e208 W208
  have N208 := Fr.snoc X208 N204 P4
  have Fw208 : Fld Z h208 a1 "java/util/ImmutableCollections$List12" "e1" "Ljava/lang/Object;" (.ref x1) := f206.same W208
  have K209 : Keep h0 h203 [a1] := (Keep.refl h0 [a1]).wr W203 (Or.inl (by simp))
  have K210 : Keep h0 h208 [a1] := K209.wr W208 (Or.inl (by simp))
  have f211 : Exa Z h208 a1 "java/util/ImmutableCollections$List12" := f207.wr W208
  have f212 : Fld Z h208 a1 "java/util/ImmutableCollections$List12" "e0" "Ljava/lang/Object;" (.ref x0) := Fw203.other W208 (Or.inr (slot_ne (Or.inr (wd265 hw)) (Or.inr (wd267 hw)) (by decide) (t := (.object "java/lang/Object")) (t' := (.object "java/lang/Object")) (by decide) (by decide)))
  refine endP X208 hlk (fun _ => rfl) (lastV X208 hx hret (hb hby d_jdk_44m2_20)) ?_ (by decide) (by decide)
  rw [e208]
  exact ⟨rfl, N208, K210, f211, f212, Fw208⟩
theorem d_jdk_40m47_0 : decode jdk_40_method_47_code 0 = .ok (.aload_n 0, 1) := by decide +kernel
theorem d_jdk_40m47_1 : decode jdk_40_method_47_code 1 = .ok (.arraylength, 1) := by decide +kernel
theorem d_jdk_40m47_2 : decode jdk_40_method_47_code 2 = .ok (.tableswitch 57 0 2 #[26, 32, 43], 26) := by decide +kernel
theorem d_jdk_40m47_34 : decode jdk_40_method_47_code 34 = .ok (.new 96, 3) := by decide +kernel
theorem wd239 {a0 : Array Value} {Z : State} (hw : HW a0 Z) : ((Jvm.Cond.classLink "java/util/List" (96 : Nat) "java/util/ImmutableCollections$List12") : Jvm.Cond).before a0 Z = true := hw _ (List.mem_of_getElem? (i := 239) rfl)
theorem wd241 {a0 : Array Value} {Z : State} (hw : HW a0 Z) : ((Jvm.Cond.initialized "java/util/ImmutableCollections$List12") : Jvm.Cond).before a0 Z = true := hw _ (List.mem_of_getElem? (i := 241) rfl)
theorem d_jdk_40m47_37 : decode jdk_40_method_47_code 37 = .ok (.dup, 1) := by decide +kernel
theorem d_jdk_40m47_38 : decode jdk_40_method_47_code 38 = .ok (.aload_n 0, 1) := by decide +kernel
theorem d_jdk_40m47_39 : decode jdk_40_method_47_code 39 = .ok (.iconst 0, 1) := by decide +kernel
theorem d_jdk_40m47_40 : decode jdk_40_method_47_code 40 = .ok (.aaload, 1) := by decide +kernel
theorem d_jdk_40m47_41 : decode jdk_40_method_47_code 41 = .ok (.invokespecial 98, 3) := by decide +kernel
theorem wd285 {a0 : Array Value} {Z : State} (hw : HW a0 Z) : ((Jvm.Cond.code ({ cls := "java/util/ImmutableCollections$List12", name := "<init>", desc := "(Ljava/lang/Object;)V" } : Jvm.MethodName) jdk_44_method_1_code (2 : Nat) (Option.none : Option Jvm.ClassFile.FieldType)) : Jvm.Cond).before a0 Z = true := hw _ (List.mem_of_getElem? (i := 285) rfl)
theorem pd8 : parseMethodDescriptor "(Ljava/lang/Object;)V" = some ⟨[(.object "java/lang/Object")], none⟩ := by decide +kernel
theorem wd283 {a0 : Array Value} {Z : State} (hw : HW a0 Z) : ((Jvm.Cond.methodLink "java/util/List" (98 : Nat) ({ cls := "java/util/ImmutableCollections$List12", name := "<init>", desc := "(Ljava/lang/Object;)V" } : Jvm.MethodName)) : Jvm.Cond).before a0 Z = true := hw _ (List.mem_of_getElem? (i := 283) rfl)
theorem wd284 {a0 : Array Value} {Z : State} (hw : HW a0 Z) : ((Jvm.Cond.instanceMethod ({ cls := "java/util/ImmutableCollections$List12", name := "<init>", desc := "(Ljava/lang/Object;)V" } : Jvm.MethodName)) : Jvm.Cond).before a0 Z = true := hw _ (List.mem_of_getElem? (i := 284) rfl)
theorem d_jdk_40m47_44 : decode jdk_40_method_47_code 44 = .ok (.areturn, 1) := by decide +kernel
def Q_ofa1 (Z : State) (zC : Int32) (aE : Addr) (aD : Addr) (aM : Addr) (mO : Addr) (ca : Addr) (kc : ClassId) (x0 : Addr) (h0 : Heap) (v : Option Value) (h : Heap) (L : List Loc) : Prop := ∃ (q : Addr), v = some (.ref q) ∧ Fr Z.heap.size L ∧ Keep h0 h [] ∧ h0.size ≤ q ∧ Exa Z h q "java/util/ImmutableCollections$List12" ∧ Fld Z h q "java/util/ImmutableCollections$List12" "e0" "Ljava/lang/Object;" (.ref x0) ∧ Fld Z h q "java/util/ImmutableCollections$List12" "e1" "Ljava/lang/Object;" (.ref aM)
theorem pn13 : plainName "java/util/List" = true := by first | (simp [plainName, overriddenIn]; done) | decide +kernel
theorem rm_ofa1 (l : Launch) (Z : State) (a0 : Array Value) (hw : HW a0 Z) (zC : Int32) (SC : tSC Z zC) (PC : ¬ zC = (0 : Int32)) (aE : Addr) (SE : tSE Z aE) (aD : Addr) (SD : tSD Z aD) (aM : Addr) (SM : tSM Z aM) (mO : Addr) (MO : tMO Z mO) (ca : Addr) (kc : ClassId) (x0 : Addr) (h0 : Heap) (O0 : Old Z Z.heap.size h0) (P1 : Arv Z h0 ca kc (.object "java/lang/Object") (1 : Int32) [(.ref x0)] .null) :
    Con l Z (⟨"java/util/List", "of", "([Ljava/lang/Object;)Ljava/util/List;"⟩ : MethodName) jdk_40_method_47_code 2 (some (.object "java/util/List")) ({ frames := 5, cells := 1, slots := 2, locals := 62 } : Room) #[(.ref ca)] h0 (Q_ofa1 Z zC aE aD aM mO ca kc x0 h0) := by
  refine Con.intro (plainFor_of_name pn13) ?_
  intro p e s m below meth c T0 X0 hx hby hml hown0 hnm hret hlk hZ0 e0
  have N0 := Fr.nil Z.heap.size
  refine castGo (g' := mkF m 0 #[.val (.ref ca), .unset] []) (by first | rfl | (simp [entryFrame, mkF, argsToLocals, Value.category]; done)) ?_
  show Go _ _ _ _ (T0.setTop (mkF m 0 #[.val (.ref ca), .unset] []))
  refine aL X0 hx (hb hby d_jdk_40m47_0) (q := 1) rfl rfl rfl ?_
  refine g_len X0 hx hZ0 P1 e0 (hb hby d_jdk_40m47_1) (q := 2) rfl ?_
  refine g_tsw X0 hx (j := (32 : Int)) (hb hby d_jdk_40m47_2) (q := 34) (by decide) (by decide) (by decide) (by decide) ?_
  refine g_new X0 hx hZ0 hown0 (wd239 hw) (wd240 hw) (wd241 hw) (by decide) (by decide) e0 (hb hby d_jdk_40m47_34) (q := 37) rfl ?_
  intro T213 h213 b213 g213 X213 e213 E213 A213 D213
  have F213_265 := D213 (Or.inr (wd265 hw)) (ty := (.object "java/lang/Object")) (by decide)
  have F213_267 := D213 (Or.inr (wd267 hw)) (ty := (.object "java/lang/Object")) (by decide)
  refine g_dup X213 hx (hb hby d_jdk_40m47_37) (q := 38) rfl rfl ?_
  refine aL X213 hx (hb hby d_jdk_40m47_38) (q := 39) rfl rfl rfl ?_
  refine cI X213 hx (hb hby d_jdk_40m47_39) (q := 40) rfl (z := (0 : Int32)) rfl ?_
  have f214 : Arv Z h213 ca kc (.object "java/lang/Object") (1 : Int32) [(.ref x0)] .null := P1.ext E213
  refine g_ldR X213 hx hZ0 f214 rfl (i := 0) (by decide) (by decide) (by decide) (v := (.ref x0)) rfl e213 (hb hby d_jdk_40m47_40) (q := 41) rfl ?_
  have gz217 : Z.heap.size ≤ b213 := Nat.le_trans O0.2.1 (Nat.le_of_eq g213.symm)
  have f218 : Old Z Z.heap.size h213 := O0.ext E213
  refine g_sp X213 hx hZ0 hown0 (wd283 hw) (wd284 hw) (wd285 hw) rfl (by decide) e213 (Con.back (W := 1) (rm_l12a l Z a0 hw zC SC PC aE SE aD SD aM SM mO MO b213 x0 h213 f218 A213 F213_265 F213_267 gz217) hZ0 (wd285 hw) (wd241 hw) (by decide) (by decide)) (by rw [hml]; rfl) (lenOf pd8 rfl) rfl (Nat.le_of_eq rfl) (hb hby d_jdk_40m47_41) (q := 44) rfl (by decide) (by decide) ?_
  intro v216 T216 L216 X216 Q216
  obtain ⟨rfl, Nq216, K216q, q216_0, q216_1, q216_2⟩ := Q216
  have N216 := Fr.app N0 Nq216
  show Go _ _ _ _ (T216.setTop (mkF m 44 #[.val (.ref ca), .unset] [(.ref b213)]))
  have K219 : Keep h0 h213 [] := (Keep.refl h0 []).ext E213
  have gh220 : h0.size ≤ b213 := Nat.le_trans (Nat.le_refl _) (Nat.le_of_eq g213.symm)
  have K221 : Keep h0 T216.heap [] := K219.trans K216q (allS (Or.inr gh220) all0)
  refine endP X216 hlk (fun h => by rw [hret] at h; cases h) (lastA X216 hx hret rfl rfl rfl (hb hby d_jdk_40m47_44)) ?_ (by decide) (by decide)
  exact ⟨b213, rfl, N216, K221, gh220, q216_0, q216_1, q216_2⟩
theorem d_jdk_56m3_0 : decode jdk_56_method_3_code 0 = .ok (.aload_n 0, 1) := by decide +kernel
theorem d_jdk_56m3_1 : decode jdk_56_method_3_code 1 = .ok (.instanceof 10, 3) := by decide +kernel
theorem wd87 {a0 : Array Value} {Z : State} (hw : HW a0 Z) : ((Jvm.Cond.classLink "java/util/ImmutableCollections" (10 : Nat) "java/util/ImmutableCollections$List12") : Jvm.Cond).before a0 Z = true := hw _ (List.mem_of_getElem? (i := 87) rfl)
theorem wd90 {a0 : Array Value} {Z : State} (hw : HW a0 Z) : ((Jvm.Cond.superclass "java/util/AbstractCollection" "java/lang/Object") : Jvm.Cond).before a0 Z = true := hw _ (List.mem_of_getElem? (i := 90) rfl)
theorem wd89 {a0 : Array Value} {Z : State} (hw : HW a0 Z) : ((Jvm.Cond.superclass "java/util/AbstractList" "java/util/AbstractCollection") : Jvm.Cond).before a0 Z = true := hw _ (List.mem_of_getElem? (i := 89) rfl)
theorem wd88 {a0 : Array Value} {Z : State} (hw : HW a0 Z) : ((Jvm.Cond.superclass "java/util/ArrayList" "java/util/AbstractList") : Jvm.Cond).before a0 Z = true := hw _ (List.mem_of_getElem? (i := 88) rfl)
theorem d_jdk_56m3_4 : decode jdk_56_method_3_code 4 = .ok (.ifCond .ne 22, 3) := by decide +kernel
theorem d_jdk_56m3_7 : decode jdk_56_method_3_code 7 = .ok (.aload_n 0, 1) := by decide +kernel
theorem d_jdk_56m3_8 : decode jdk_56_method_3_code 8 = .ok (.instanceof 12, 3) := by decide +kernel
theorem wd92 {a0 : Array Value} {Z : State} (hw : HW a0 Z) : ((Jvm.Cond.classLink "java/util/ImmutableCollections" (12 : Nat) "java/util/ImmutableCollections$ListN") : Jvm.Cond).before a0 Z = true := hw _ (List.mem_of_getElem? (i := 92) rfl)
theorem wd123 {a0 : Array Value} {Z : State} (hw : HW a0 Z) : ((Jvm.Cond.superclass "java/util/ImmutableCollections$ListN" "java/util/ImmutableCollections$AbstractImmutableList") : Jvm.Cond).before a0 Z = true := hw _ (List.mem_of_getElem? (i := 123) rfl)
theorem d_jdk_56m3_11 : decode jdk_56_method_3_code 11 = .ok (.ifCond .eq 20, 3) := by decide +kernel
theorem d_jdk_56m3_31 : decode jdk_56_method_3_code 31 = .ok (.aload_n 0, 1) := by decide +kernel
theorem d_jdk_56m3_32 : decode jdk_56_method_3_code 32 = .ok (.invokeinterface 20 1, 5) := by decide +kernel
theorem wd101 {a0 : Array Value} {Z : State} (hw : HW a0 Z) : ((Jvm.Cond.code ({ cls := "java/util/ArrayList", name := "isEmpty", desc := "()Z" } : Jvm.MethodName) jdk_38_method_9_code (1 : Nat) (Option.some Jvm.ClassFile.FieldType.boolean)) : Jvm.Cond).before a0 Z = true := hw _ (List.mem_of_getElem? (i := 101) rfl)
theorem pd9 : parseMethodDescriptor "()Z" = some ⟨[], some .boolean⟩ := by decide +kernel
theorem wd93 {a0 : Array Value} {Z : State} (hw : HW a0 Z) : ((Jvm.Cond.methodLink "java/util/ImmutableCollections" (20 : Nat) ({ cls := "java/util/Collection", name := "isEmpty", desc := "()Z" } : Jvm.MethodName)) : Jvm.Cond).before a0 Z = true := hw _ (List.mem_of_getElem? (i := 93) rfl)
theorem wd94 {a0 : Array Value} {Z : State} (hw : HW a0 Z) : ((Jvm.Cond.declares ({ cls := "java/util/Collection", name := "isEmpty", desc := "()Z" } : Jvm.MethodName)) : Jvm.Cond).before a0 Z = true := hw _ (List.mem_of_getElem? (i := 94) rfl)
theorem wd95 {a0 : Array Value} {Z : State} (hw : HW a0 Z) : ((Jvm.Cond.interfaceMethod "java/util/Collection" "java/util/Collection" "isEmpty" "()Z") : Jvm.Cond).before a0 Z = true := hw _ (List.mem_of_getElem? (i := 95) rfl)
theorem wd96 {a0 : Array Value} {Z : State} (hw : HW a0 Z) : ((Jvm.Cond.selects "java/util/ArrayList" ({ cls := "java/util/Collection", name := "isEmpty", desc := "()Z" } : Jvm.MethodName) ({ cls := "java/util/ArrayList", name := "isEmpty", desc := "()Z" } : Jvm.MethodName)) : Jvm.Cond).before a0 Z = true := hw _ (List.mem_of_getElem? (i := 96) rfl)
theorem wd97 {a0 : Array Value} {Z : State} (hw : HW a0 Z) : ((Jvm.Cond.instanceMethod ({ cls := "java/util/ArrayList", name := "isEmpty", desc := "()Z" } : Jvm.MethodName)) : Jvm.Cond).before a0 Z = true := hw _ (List.mem_of_getElem? (i := 97) rfl)
theorem wd98 {a0 : Array Value} {Z : State} (hw : HW a0 Z) : ((Jvm.Cond.publicMethod ({ cls := "java/util/ArrayList", name := "isEmpty", desc := "()Z" } : Jvm.MethodName)) : Jvm.Cond).before a0 Z = true := hw _ (List.mem_of_getElem? (i := 98) rfl)
theorem wd99 {a0 : Array Value} {Z : State} (hw : HW a0 Z) : ((Jvm.Cond.unhidden "java/util/ArrayList" "isEmpty" "()Z") : Jvm.Cond).before a0 Z = true := hw _ (List.mem_of_getElem? (i := 99) rfl)
theorem wd100 {a0 : Array Value} {Z : State} (hw : HW a0 Z) : ((Jvm.Cond.castable "java/util/ArrayList" "java/util/Collection") : Jvm.Cond).before a0 Z = true := hw _ (List.mem_of_getElem? (i := 100) rfl)
theorem d_jdk_56m3_37 : decode jdk_56_method_3_code 37 = .ok (.ifCond .eq 7, 3) := by decide +kernel
theorem d_jdk_56m3_44 : decode jdk_56_method_3_code 44 = .ok (.aload_n 0, 1) := by decide +kernel
theorem d_jdk_56m3_45 : decode jdk_56_method_3_code 45 = .ok (.invokeinterface 30 1, 5) := by decide +kernel
theorem wd213 {a0 : Array Value} {Z : State} (hw : HW a0 Z) : ((Jvm.Cond.code ({ cls := "java/util/ArrayList", name := "toArray", desc := "()[Ljava/lang/Object;" } : Jvm.MethodName) jdk_38_method_16_code (1 : Nat) (Option.some (Jvm.ClassFile.FieldType.array (Jvm.ClassFile.FieldType.object "java/lang/Object")))) : Jvm.Cond).before a0 Z = true := hw _ (List.mem_of_getElem? (i := 213) rfl)
theorem wd206 {a0 : Array Value} {Z : State} (hw : HW a0 Z) : ((Jvm.Cond.methodLink "java/util/ImmutableCollections" (30 : Nat) ({ cls := "java/util/Collection", name := "toArray", desc := "()[Ljava/lang/Object;" } : Jvm.MethodName)) : Jvm.Cond).before a0 Z = true := hw _ (List.mem_of_getElem? (i := 206) rfl)
theorem wd207 {a0 : Array Value} {Z : State} (hw : HW a0 Z) : ((Jvm.Cond.declares ({ cls := "java/util/Collection", name := "toArray", desc := "()[Ljava/lang/Object;" } : Jvm.MethodName)) : Jvm.Cond).before a0 Z = true := hw _ (List.mem_of_getElem? (i := 207) rfl)
theorem wd208 {a0 : Array Value} {Z : State} (hw : HW a0 Z) : ((Jvm.Cond.interfaceMethod "java/util/Collection" "java/util/Collection" "toArray" "()[Ljava/lang/Object;") : Jvm.Cond).before a0 Z = true := hw _ (List.mem_of_getElem? (i := 208) rfl)
theorem wd209 {a0 : Array Value} {Z : State} (hw : HW a0 Z) : ((Jvm.Cond.selects "java/util/ArrayList" ({ cls := "java/util/Collection", name := "toArray", desc := "()[Ljava/lang/Object;" } : Jvm.MethodName) ({ cls := "java/util/ArrayList", name := "toArray", desc := "()[Ljava/lang/Object;" } : Jvm.MethodName)) : Jvm.Cond).before a0 Z = true := hw _ (List.mem_of_getElem? (i := 209) rfl)
theorem wd210 {a0 : Array Value} {Z : State} (hw : HW a0 Z) : ((Jvm.Cond.instanceMethod ({ cls := "java/util/ArrayList", name := "toArray", desc := "()[Ljava/lang/Object;" } : Jvm.MethodName)) : Jvm.Cond).before a0 Z = true := hw _ (List.mem_of_getElem? (i := 210) rfl)
theorem wd211 {a0 : Array Value} {Z : State} (hw : HW a0 Z) : ((Jvm.Cond.publicMethod ({ cls := "java/util/ArrayList", name := "toArray", desc := "()[Ljava/lang/Object;" } : Jvm.MethodName)) : Jvm.Cond).before a0 Z = true := hw _ (List.mem_of_getElem? (i := 211) rfl)
theorem wd212 {a0 : Array Value} {Z : State} (hw : HW a0 Z) : ((Jvm.Cond.unhidden "java/util/ArrayList" "toArray" "()[Ljava/lang/Object;") : Jvm.Cond).before a0 Z = true := hw _ (List.mem_of_getElem? (i := 212) rfl)
theorem d_jdk_56m3_50 : decode jdk_56_method_3_code 50 = .ok (.invokestatic 34, 3) := by decide +kernel
theorem wd238 {a0 : Array Value} {Z : State} (hw : HW a0 Z) : ((Jvm.Cond.code ({ cls := "java/util/List", name := "of", desc := "([Ljava/lang/Object;)Ljava/util/List;" } : Jvm.MethodName) jdk_40_method_47_code (2 : Nat) (Option.some (Jvm.ClassFile.FieldType.object "java/util/List"))) : Jvm.Cond).before a0 Z = true := hw _ (List.mem_of_getElem? (i := 238) rfl)
theorem wd81 {a0 : Array Value} {Z : State} (hw : HW a0 Z) : ((Jvm.Cond.initialized "java/util/List") : Jvm.Cond).before a0 Z = true := hw _ (List.mem_of_getElem? (i := 81) rfl)
theorem pd10 : parseMethodDescriptor "([Ljava/lang/Object;)Ljava/util/List;" = some ⟨[(.array (.object "java/lang/Object"))], some (.object "java/util/List")⟩ := by decide +kernel
theorem wd236 {a0 : Array Value} {Z : State} (hw : HW a0 Z) : ((Jvm.Cond.methodLink "java/util/ImmutableCollections" (34 : Nat) ({ cls := "java/util/List", name := "of", desc := "([Ljava/lang/Object;)Ljava/util/List;" } : Jvm.MethodName)) : Jvm.Cond).before a0 Z = true := hw _ (List.mem_of_getElem? (i := 236) rfl)
theorem wd237 {a0 : Array Value} {Z : State} (hw : HW a0 Z) : ((Jvm.Cond.static ({ cls := "java/util/List", name := "of", desc := "([Ljava/lang/Object;)Ljava/util/List;" } : Jvm.MethodName)) : Jvm.Cond).before a0 Z = true := hw _ (List.mem_of_getElem? (i := 237) rfl)
theorem d_jdk_56m3_53 : decode jdk_56_method_3_code 53 = .ok (.areturn, 1) := by decide +kernel
def Q_lc1 (Z : State) (zC : Int32) (aE : Addr) (aD : Addr) (aM : Addr) (mO : Addr) (a1 : Addr) (r : Addr) (kr : ClassId) (x0 : Addr) (h0 : Heap) (v : Option Value) (h : Heap) (L : List Loc) : Prop := ∃ (q : Addr), v = some (.ref q) ∧ Fr Z.heap.size L ∧ Keep h0 h [] ∧ h0.size ≤ q ∧ Exa Z h q "java/util/ImmutableCollections$List12" ∧ Fld Z h q "java/util/ImmutableCollections$List12" "e0" "Ljava/lang/Object;" (.ref x0) ∧ Fld Z h q "java/util/ImmutableCollections$List12" "e1" "Ljava/lang/Object;" (.ref aM)
theorem pn14 : plainName "java/util/ImmutableCollections" = true := by first | (simp [plainName, overriddenIn]; done) | decide +kernel
theorem rm_lc1 (l : Launch) (Z : State) (a0 : Array Value) (hw : HW a0 Z) (zC : Int32) (SC : tSC Z zC) (PC : ¬ zC = (0 : Int32)) (aE : Addr) (SE : tSE Z aE) (aD : Addr) (SD : tSD Z aD) (aM : Addr) (SM : tSM Z aM) (mO : Addr) (MO : tMO Z mO) (a1 : Addr) (r : Addr) (kr : ClassId) (x0 : Addr) (h0 : Heap) (O0 : Old Z Z.heap.size h0) (P3 : Exa Z h0 a1 "java/util/ArrayList") (P4 : Fld Z h0 a1 "java/util/ArrayList" "size" "I" (.int (1 : Int32))) (P5 : Fld Z h0 a1 "java/util/ArrayList" "elementData" "[Ljava/lang/Object;" (.ref r)) (P1 : Arv Z h0 r kr (.object "java/lang/Object") (10 : Int32) [(.ref x0), .null, .null, .null, .null, .null, .null, .null, .null, .null] .null) (P2 : Exa Z h0 r "[Ljava/lang/Object;") (PX0 : Exa Z h0 x0 "com/example/quaymark/quaymark/Review$LeftOut") :
    Con l Z (⟨"java/util/ImmutableCollections", "listCopy", "(Ljava/util/Collection;)Ljava/util/List;"⟩ : MethodName) jdk_56_method_3_code 2 (some (.object "java/util/List")) ({ frames := 6, cells := 2, slots := 3, locals := 75 } : Room) #[(.ref a1)] h0 (Q_lc1 Z zC aE aD aM mO a1 r kr x0 h0) := by
  refine Con.intro (plainFor_of_name pn14) ?_
  intro p e s m below meth c T0 X0 hx hby hml hown0 hnm hret hlk hZ0 e0
  have N0 := Fr.nil Z.heap.size
  refine castGo (g' := mkF m 0 #[.val (.ref a1), .unset] []) (by first | rfl | (simp [entryFrame, mkF, argsToLocals, Value.category]; done)) ?_
  show Go _ _ _ _ (T0.setTop (mkF m 0 #[.val (.ref a1), .unset] []))
  refine aL X0 hx (hb hby d_jdk_56m3_0) (q := 1) rfl rfl rfl ?_
  refine g_insN X0 hx hZ0 hown0 (wd87 hw) P3 (nsi_no (wd88 hw) (wd240 hw) (NS.step (wd88 hw) (NS.step (wd89 hw) (NS.step (wd90 hw) (nsi_root (wd91 hw) (wd240 hw) (by decide)) (by decide)) (by decide)) (by decide)) (by decide)) e0 (hb hby d_jdk_56m3_1) (q := 4) rfl ?_
  intro T222 X222 e222
  refine ifN X222 hx (hb hby d_jdk_56m3_4) (q := 7) rfl (by decide) ?_
  refine aL X222 hx (hb hby d_jdk_56m3_7) (q := 8) rfl rfl rfl ?_
  refine g_insN X222 hx hZ0 hown0 (wd92 hw) P3 (NS.no (wd88 hw) (wd123 hw) (NS.step (wd88 hw) (NS.step (wd89 hw) (NS.step (wd90 hw) (NS.root (wd91 hw) (wd123 hw) (by decide)) (by decide)) (by decide)) (by decide)) (by decide)) e222 (hb hby d_jdk_56m3_8) (q := 11) rfl ?_
  intro T223 X223 e223
  refine ifY X223 hx (hb hby d_jdk_56m3_11) (q := 31) (by decide) (by decide) (by decide) ?_
  refine aL X223 hx (hb hby d_jdk_56m3_31) (q := 32) rfl rfl rfl ?_
  refine g_if X223 hx hZ0 hown0 (wd93 hw) (wd94 hw) (wd95 hw) rfl (wd96 hw) (wd97 hw) (wd98 hw) (wd99 hw) (wd100 hw) (by decide) P3 e223 (Con.back (W := 0) (rm_isempty1 l Z a0 hw zC SC PC aE SE aD SD aM SM mO MO a1 h0 O0 P4) hZ0 (wd101 hw) (wd50 hw) (by decide) (by decide)) (by rw [hml]; rfl) (lenOf pd9 rfl) rfl (Nat.le_of_eq rfl) (hb hby d_jdk_56m3_32) (q := 37) rfl (by decide) (by decide) ?_
  intro v224 T224 L224 X224 Q224
  obtain ⟨rfl, Nq224, e224⟩ := Q224
  have N224 := Fr.app N0 Nq224
  show Go _ _ _ _ (T224.setTop (mkF m 37 #[.val (.ref a1), .unset] [(.int (0 : Int32))]))
  refine ifY X224 hx (hb hby d_jdk_56m3_37) (q := 44) (by decide) (by decide) (by decide) ?_
  refine aL X224 hx (hb hby d_jdk_56m3_44) (q := 45) rfl rfl rfl ?_
  refine g_if X224 hx hZ0 hown0 (wd206 hw) (wd207 hw) (wd208 hw) rfl (wd209 hw) (wd210 hw) (wd211 hw) (wd212 hw) (wd100 hw) (by decide) P3 e224 (Con.back (W := 0) (rm_toarr1 l Z a0 hw zC SC PC aE SE aD SD aM SM mO MO a1 r kr x0 h0 O0 P3 P4 P5 P1 P2 PX0) hZ0 (wd213 hw) (wd50 hw) (by decide) (by decide)) (by rw [hml]; rfl) (lenOf pd3 rfl) rfl (Nat.le_of_eq rfl) (hb hby d_jdk_56m3_45) (q := 50) rfl (by decide) (by decide) ?_
  intro v225 T225 L225 X225 Q225
  obtain ⟨c_225, kc_225, rfl, Nq225, K225q, q225_0, q225_1⟩ := Q225
  have N225 := Fr.app N224 Nq225
  show Go _ _ _ _ (T225.setTop (mkF m 50 #[.val (.ref a1), .unset] [(.ref c_225)]))
  have f227 : Old Z Z.heap.size T225.heap := O0.keep K225q all0
  refine g_st X225 hx hZ0 hown0 (wd236 hw) (wd237 hw) (wd81 hw) (wd238 hw) (by decide) rfl (Con.back (W := 0) (rm_ofa1 l Z a0 hw zC SC PC aE SE aD SD aM SM mO MO c_225 kc_225 x0 T225.heap f227 q225_1) hZ0 (wd238 hw) (wd81 hw) (by decide) (by decide)) (by rw [hml]; rfl) (lenOf pd10 rfl) rfl (Nat.le_of_eq rfl) (hb hby d_jdk_56m3_50) (q := 53) rfl (by decide) (by decide) ?_
  intro v226 T226 L226 X226 Q226
  obtain ⟨q_226, rfl, Nq226, K226q, q226_0, q226_1, q226_2, q226_3⟩ := Q226
  have N226 := Fr.app N225 Nq226
  show Go _ _ _ _ (T226.setTop (mkF m 53 #[.val (.ref a1), .unset] [(.ref q_226)]))
  have K228 : Keep h0 T225.heap [] := (Keep.refl h0 []).trans K225q all0
  have K229 : Keep h0 T226.heap [] := K228.trans K226q all0
  have le231 : (h0).size ≤ (T225.heap).size := K225q.1
  have gh230 : h0.size ≤ q_226 := Nat.le_trans le231 q226_0
  refine endP X226 hlk (fun h => by rw [hret] at h; cases h) (lastA X226 hx hret rfl rfl rfl (hb hby d_jdk_56m3_53)) ?_ (by decide) (by decide)
  exact ⟨q_226, rfl, N226, K229, gh230, q226_1, q226_2, q226_3⟩
theorem d_jdk_40m48_0 : decode jdk_40_method_48_code 0 = .ok (.aload_n 0, 1) := by decide +kernel
theorem d_jdk_40m48_1 : decode jdk_40_method_48_code 1 = .ok (.invokestatic 112, 3) := by decide +kernel
theorem wd86 {a0 : Array Value} {Z : State} (hw : HW a0 Z) : ((Jvm.Cond.code ({ cls := "java/util/ImmutableCollections", name := "listCopy", desc := "(Ljava/util/Collection;)Ljava/util/List;" } : Jvm.MethodName) jdk_56_method_3_code (2 : Nat) (Option.some (Jvm.ClassFile.FieldType.object "java/util/List"))) : Jvm.Cond).before a0 Z = true := hw _ (List.mem_of_getElem? (i := 86) rfl)
theorem wd85 {a0 : Array Value} {Z : State} (hw : HW a0 Z) : ((Jvm.Cond.initialized "java/util/ImmutableCollections") : Jvm.Cond).before a0 Z = true := hw _ (List.mem_of_getElem? (i := 85) rfl)
theorem pd11 : parseMethodDescriptor "(Ljava/util/Collection;)Ljava/util/List;" = some ⟨[(.object "java/util/Collection")], some (.object "java/util/List")⟩ := by decide +kernel
theorem wd83 {a0 : Array Value} {Z : State} (hw : HW a0 Z) : ((Jvm.Cond.methodLink "java/util/List" (112 : Nat) ({ cls := "java/util/ImmutableCollections", name := "listCopy", desc := "(Ljava/util/Collection;)Ljava/util/List;" } : Jvm.MethodName)) : Jvm.Cond).before a0 Z = true := hw _ (List.mem_of_getElem? (i := 83) rfl)
theorem wd84 {a0 : Array Value} {Z : State} (hw : HW a0 Z) : ((Jvm.Cond.static ({ cls := "java/util/ImmutableCollections", name := "listCopy", desc := "(Ljava/util/Collection;)Ljava/util/List;" } : Jvm.MethodName)) : Jvm.Cond).before a0 Z = true := hw _ (List.mem_of_getElem? (i := 84) rfl)
theorem d_jdk_40m48_4 : decode jdk_40_method_48_code 4 = .ok (.areturn, 1) := by decide +kernel
def Q_co1 (Z : State) (zC : Int32) (aE : Addr) (aD : Addr) (aM : Addr) (mO : Addr) (a1 : Addr) (r : Addr) (kr : ClassId) (x0 : Addr) (h0 : Heap) (v : Option Value) (h : Heap) (L : List Loc) : Prop := ∃ (q : Addr), v = some (.ref q) ∧ Fr Z.heap.size L ∧ Keep h0 h [] ∧ h0.size ≤ q ∧ Exa Z h q "java/util/ImmutableCollections$List12" ∧ Fld Z h q "java/util/ImmutableCollections$List12" "e0" "Ljava/lang/Object;" (.ref x0) ∧ Fld Z h q "java/util/ImmutableCollections$List12" "e1" "Ljava/lang/Object;" (.ref aM)
theorem rm_co1 (l : Launch) (Z : State) (a0 : Array Value) (hw : HW a0 Z) (zC : Int32) (SC : tSC Z zC) (PC : ¬ zC = (0 : Int32)) (aE : Addr) (SE : tSE Z aE) (aD : Addr) (SD : tSD Z aD) (aM : Addr) (SM : tSM Z aM) (mO : Addr) (MO : tMO Z mO) (a1 : Addr) (r : Addr) (kr : ClassId) (x0 : Addr) (h0 : Heap) (O0 : Old Z Z.heap.size h0) (P3 : Exa Z h0 a1 "java/util/ArrayList") (P4 : Fld Z h0 a1 "java/util/ArrayList" "size" "I" (.int (1 : Int32))) (P5 : Fld Z h0 a1 "java/util/ArrayList" "elementData" "[Ljava/lang/Object;" (.ref r)) (P1 : Arv Z h0 r kr (.object "java/lang/Object") (10 : Int32) [(.ref x0), .null, .null, .null, .null, .null, .null, .null, .null, .null] .null) (P2 : Exa Z h0 r "[Ljava/lang/Object;") (PX0 : Exa Z h0 x0 "com/example/quaymark/quaymark/Review$LeftOut") :
    Con l Z (⟨"java/util/List", "copyOf", "(Ljava/util/Collection;)Ljava/util/List;"⟩ : MethodName) jdk_40_method_48_code 1 (some (.object "java/util/List")) ({ frames := 7, cells := 2, slots := 3, locals := 88 } : Room) #[(.ref a1)] h0 (Q_co1 Z zC aE aD aM mO a1 r kr x0 h0) := by
  refine Con.intro (plainFor_of_name pn13) ?_
  intro p e s m below meth c T0 X0 hx hby hml hown0 hnm hret hlk hZ0 e0
  have N0 := Fr.nil Z.heap.size
  refine castGo (g' := mkF m 0 #[.val (.ref a1)] []) (by first | rfl | (simp [entryFrame, mkF, argsToLocals, Value.category]; done)) ?_
  show Go _ _ _ _ (T0.setTop (mkF m 0 #[.val (.ref a1)] []))
  refine aL X0 hx (hb hby d_jdk_40m48_0) (q := 1) rfl rfl rfl ?_
  refine g_st X0 hx hZ0 hown0 (wd83 hw) (wd84 hw) (wd85 hw) (wd86 hw) (by decide) e0 (Con.back (W := 0) (rm_lc1 l Z a0 hw zC SC PC aE SE aD SD aM SM mO MO a1 r kr x0 h0 O0 P3 P4 P5 P1 P2 PX0) hZ0 (wd86 hw) (wd85 hw) (by decide) (by decide)) (by rw [hml]; rfl) (lenOf pd11 rfl) rfl (Nat.le_of_eq rfl) (hb hby d_jdk_40m48_1) (q := 4) rfl (by decide) (by decide) ?_
  intro v232 T232 L232 X232 Q232
  obtain ⟨q_232, rfl, Nq232, K232q, q232_0, q232_1, q232_2, q232_3⟩ := Q232
  have N232 := Fr.app N0 Nq232
  show Go _ _ _ _ (T232.setTop (mkF m 4 #[.val (.ref a1)] [(.ref q_232)]))
  have K233 : Keep h0 T232.heap [] := (Keep.refl h0 []).trans K232q all0
  have gh234 : h0.size ≤ q_232 := Nat.le_trans (Nat.le_refl _) q232_0
  refine endP X232 hlk (fun h => by rw [hret] at h; cases h) (lastA X232 hx hret rfl rfl rfl (hb hby d_jdk_40m48_4)) ?_ (by decide) (by decide)
  exact ⟨q_232, rfl, N232, K233, gh234, q232_1, q232_2, q232_3⟩
theorem d_jdk_40m47_45 : decode jdk_40_method_47_code 45 = .ok (.new 96, 3) := by decide +kernel
theorem d_jdk_40m47_48 : decode jdk_40_method_47_code 48 = .ok (.dup, 1) := by decide +kernel
theorem d_jdk_40m47_49 : decode jdk_40_method_47_code 49 = .ok (.aload_n 0, 1) := by decide +kernel
theorem d_jdk_40m47_50 : decode jdk_40_method_47_code 50 = .ok (.iconst 0, 1) := by decide +kernel
theorem d_jdk_40m47_51 : decode jdk_40_method_47_code 51 = .ok (.aaload, 1) := by decide +kernel
theorem d_jdk_40m47_52 : decode jdk_40_method_47_code 52 = .ok (.aload_n 0, 1) := by decide +kernel
theorem d_jdk_40m47_53 : decode jdk_40_method_47_code 53 = .ok (.iconst 1, 1) := by decide +kernel
theorem d_jdk_40m47_54 : decode jdk_40_method_47_code 54 = .ok (.aaload, 1) := by decide +kernel
theorem d_jdk_40m47_55 : decode jdk_40_method_47_code 55 = .ok (.invokespecial 100, 3) := by decide +kernel
theorem wd245 {a0 : Array Value} {Z : State} (hw : HW a0 Z) : ((Jvm.Cond.code ({ cls := "java/util/ImmutableCollections$List12", name := "<init>", desc := "(Ljava/lang/Object;Ljava/lang/Object;)V" } : Jvm.MethodName) jdk_44_method_2_code (3 : Nat) (Option.none : Option Jvm.ClassFile.FieldType)) : Jvm.Cond).before a0 Z = true := hw _ (List.mem_of_getElem? (i := 245) rfl)
theorem pd12 : parseMethodDescriptor "(Ljava/lang/Object;Ljava/lang/Object;)V" = some ⟨[(.object "java/lang/Object"), (.object "java/lang/Object")], none⟩ := by decide +kernel
theorem wd242 {a0 : Array Value} {Z : State} (hw : HW a0 Z) : ((Jvm.Cond.methodLink "java/util/List" (100 : Nat) ({ cls := "java/util/ImmutableCollections$List12", name := "<init>", desc := "(Ljava/lang/Object;Ljava/lang/Object;)V" } : Jvm.MethodName)) : Jvm.Cond).before a0 Z = true := hw _ (List.mem_of_getElem? (i := 242) rfl)
theorem wd243 {a0 : Array Value} {Z : State} (hw : HW a0 Z) : ((Jvm.Cond.instanceMethod ({ cls := "java/util/ImmutableCollections$List12", name := "<init>", desc := "(Ljava/lang/Object;Ljava/lang/Object;)V" } : Jvm.MethodName)) : Jvm.Cond).before a0 Z = true := hw _ (List.mem_of_getElem? (i := 243) rfl)
theorem d_jdk_40m47_58 : decode jdk_40_method_47_code 58 = .ok (.areturn, 1) := by decide +kernel
def Q_ofa2 (Z : State) (zC : Int32) (aE : Addr) (aD : Addr) (aM : Addr) (mO : Addr) (ca : Addr) (kc : ClassId) (x0 : Addr) (x1 : Addr) (h0 : Heap) (v : Option Value) (h : Heap) (L : List Loc) : Prop := ∃ (q : Addr), v = some (.ref q) ∧ Fr Z.heap.size L ∧ Keep h0 h [] ∧ h0.size ≤ q ∧ Exa Z h q "java/util/ImmutableCollections$List12" ∧ Fld Z h q "java/util/ImmutableCollections$List12" "e0" "Ljava/lang/Object;" (.ref x0) ∧ Fld Z h q "java/util/ImmutableCollections$List12" "e1" "Ljava/lang/Object;" (.ref x1)
theorem rm_ofa2 (l : Launch) (Z : State) (a0 : Array Value) (hw : HW a0 Z) (zC : Int32) (SC : tSC Z zC) (PC : ¬ zC = (0 : Int32)) (aE : Addr) (SE : tSE Z aE) (aD : Addr) (SD : tSD Z aD) (aM : Addr) (SM : tSM Z aM) (mO : Addr) (MO : tMO Z mO) (ca : Addr) (kc : ClassId) (x0 : Addr) (x1 : Addr) (h0 : Heap) (O0 : Old Z Z.heap.size h0) (P1 : Arv Z h0 ca kc (.object "java/lang/Object") (2 : Int32) [(.ref x0), (.ref x1)] .null) :
    Con l Z (⟨"java/util/List", "of", "([Ljava/lang/Object;)Ljava/util/List;"⟩ : MethodName) jdk_40_method_47_code 2 (some (.object "java/util/List")) ({ frames := 5, cells := 1, slots := 2, locals := 63 } : Room) #[(.ref ca)] h0 (Q_ofa2 Z zC aE aD aM mO ca kc x0 x1 h0) := by
  refine Con.intro (plainFor_of_name pn13) ?_
  intro p e s m below meth c T0 X0 hx hby hml hown0 hnm hret hlk hZ0 e0
  have N0 := Fr.nil Z.heap.size
  refine castGo (g' := mkF m 0 #[.val (.ref ca), .unset] []) (by first | rfl | (simp [entryFrame, mkF, argsToLocals, Value.category]; done)) ?_
  show Go _ _ _ _ (T0.setTop (mkF m 0 #[.val (.ref ca), .unset] []))
  refine aL X0 hx (hb hby d_jdk_40m47_0) (q := 1) rfl rfl rfl ?_
  refine g_len X0 hx hZ0 P1 e0 (hb hby d_jdk_40m47_1) (q := 2) rfl ?_
  refine g_tsw X0 hx (j := (43 : Int)) (hb hby d_jdk_40m47_2) (q := 45) (by decide) (by decide) (by decide) (by decide) ?_
  refine g_new X0 hx hZ0 hown0 (wd239 hw) (wd240 hw) (wd241 hw) (by decide) (by decide) e0 (hb hby d_jdk_40m47_45) (q := 48) rfl ?_
  intro T235 h235 b235 g235 X235 e235 E235 A235 D235
  have F235_265 := D235 (Or.inr (wd265 hw)) (ty := (.object "java/lang/Object")) (by decide)
  have F235_267 := D235 (Or.inr (wd267 hw)) (ty := (.object "java/lang/Object")) (by decide)
  refine g_dup X235 hx (hb hby d_jdk_40m47_48) (q := 49) rfl rfl ?_
  refine aL X235 hx (hb hby d_jdk_40m47_49) (q := 50) rfl rfl rfl ?_
  refine cI X235 hx (hb hby d_jdk_40m47_50) (q := 51) rfl (z := (0 : Int32)) rfl ?_
  have f236 : Arv Z h235 ca kc (.object "java/lang/Object") (2 : Int32) [(.ref x0), (.ref x1)] .null := P1.ext E235
  refine g_ldR X235 hx hZ0 f236 rfl (i := 0) (by decide) (by decide) (by decide) (v := (.ref x0)) rfl e235 (hb hby d_jdk_40m47_51) (q := 52) rfl ?_
  refine aL X235 hx (hb hby d_jdk_40m47_52) (q := 53) rfl rfl rfl ?_
  refine cI X235 hx (hb hby d_jdk_40m47_53) (q := 54) rfl (z := (1 : Int32)) rfl ?_
  refine g_ldR X235 hx hZ0 f236 rfl (i := 1) (by decide) (by decide) (by decide) (v := (.ref x1)) rfl e235 (hb hby d_jdk_40m47_54) (q := 55) rfl ?_
  have gz239 : Z.heap.size ≤ b235 := Nat.le_trans O0.2.1 (Nat.le_of_eq g235.symm)
  have f240 : Old Z Z.heap.size h235 := O0.ext E235
  refine g_sp X235 hx hZ0 hown0 (wd242 hw) (wd243 hw) (wd245 hw) rfl (by decide) e235 (Con.back (W := 1) (rm_l12b l Z a0 hw zC SC PC aE SE aD SD aM SM mO MO b235 x0 x1 h235 f240 A235 F235_265 F235_267 gz239) hZ0 (wd245 hw) (wd241 hw) (by decide) (by decide)) (by rw [hml]; rfl) (lenOf pd12 rfl) rfl (Nat.le_of_eq rfl) (hb hby d_jdk_40m47_55) (q := 58) rfl (by decide) (by decide) ?_
  intro v238 T238 L238 X238 Q238
  obtain ⟨rfl, Nq238, K238q, q238_0, q238_1, q238_2⟩ := Q238
  have N238 := Fr.app N0 Nq238
  show Go _ _ _ _ (T238.setTop (mkF m 58 #[.val (.ref ca), .unset] [(.ref b235)]))
  have K241 : Keep h0 h235 [] := (Keep.refl h0 []).ext E235
  have gh242 : h0.size ≤ b235 := Nat.le_trans (Nat.le_refl _) (Nat.le_of_eq g235.symm)
  have K243 : Keep h0 T238.heap [] := K241.trans K238q (allS (Or.inr gh242) all0)
  refine endP X238 hlk (fun h => by rw [hret] at h; cases h) (lastA X238 hx hret rfl rfl rfl (hb hby d_jdk_40m47_58)) ?_ (by decide) (by decide)
  exact ⟨b235, rfl, N238, K243, gh242, q238_0, q238_1, q238_2⟩
def Q_lc2 (Z : State) (zC : Int32) (aE : Addr) (aD : Addr) (aM : Addr) (mO : Addr) (a1 : Addr) (r : Addr) (kr : ClassId) (x0 : Addr) (x1 : Addr) (h0 : Heap) (v : Option Value) (h : Heap) (L : List Loc) : Prop := ∃ (q : Addr), v = some (.ref q) ∧ Fr Z.heap.size L ∧ Keep h0 h [] ∧ h0.size ≤ q ∧ Exa Z h q "java/util/ImmutableCollections$List12" ∧ Fld Z h q "java/util/ImmutableCollections$List12" "e0" "Ljava/lang/Object;" (.ref x0) ∧ Fld Z h q "java/util/ImmutableCollections$List12" "e1" "Ljava/lang/Object;" (.ref x1)
theorem rm_lc2 (l : Launch) (Z : State) (a0 : Array Value) (hw : HW a0 Z) (zC : Int32) (SC : tSC Z zC) (PC : ¬ zC = (0 : Int32)) (aE : Addr) (SE : tSE Z aE) (aD : Addr) (SD : tSD Z aD) (aM : Addr) (SM : tSM Z aM) (mO : Addr) (MO : tMO Z mO) (a1 : Addr) (r : Addr) (kr : ClassId) (x0 : Addr) (x1 : Addr) (h0 : Heap) (O0 : Old Z Z.heap.size h0) (P3 : Exa Z h0 a1 "java/util/ArrayList") (P4 : Fld Z h0 a1 "java/util/ArrayList" "size" "I" (.int (2 : Int32))) (P5 : Fld Z h0 a1 "java/util/ArrayList" "elementData" "[Ljava/lang/Object;" (.ref r)) (P1 : Arv Z h0 r kr (.object "java/lang/Object") (10 : Int32) [(.ref x0), (.ref x1), .null, .null, .null, .null, .null, .null, .null, .null] .null) (P2 : Exa Z h0 r "[Ljava/lang/Object;") (PX0 : Exa Z h0 x0 "com/example/quaymark/quaymark/Review$LeftOut") (PX1 : Exa Z h0 x1 "com/example/quaymark/quaymark/Review$LeftOut") :
    Con l Z (⟨"java/util/ImmutableCollections", "listCopy", "(Ljava/util/Collection;)Ljava/util/List;"⟩ : MethodName) jdk_56_method_3_code 2 (some (.object "java/util/List")) ({ frames := 6, cells := 2, slots := 4, locals := 76 } : Room) #[(.ref a1)] h0 (Q_lc2 Z zC aE aD aM mO a1 r kr x0 x1 h0) := by
  refine Con.intro (plainFor_of_name pn14) ?_
  intro p e s m below meth c T0 X0 hx hby hml hown0 hnm hret hlk hZ0 e0
  have N0 := Fr.nil Z.heap.size
  refine castGo (g' := mkF m 0 #[.val (.ref a1), .unset] []) (by first | rfl | (simp [entryFrame, mkF, argsToLocals, Value.category]; done)) ?_
  show Go _ _ _ _ (T0.setTop (mkF m 0 #[.val (.ref a1), .unset] []))
  refine aL X0 hx (hb hby d_jdk_56m3_0) (q := 1) rfl rfl rfl ?_
  refine g_insN X0 hx hZ0 hown0 (wd87 hw) P3 (nsi_no (wd88 hw) (wd240 hw) (NS.step (wd88 hw) (NS.step (wd89 hw) (NS.step (wd90 hw) (nsi_root (wd91 hw) (wd240 hw) (by decide)) (by decide)) (by decide)) (by decide)) (by decide)) e0 (hb hby d_jdk_56m3_1) (q := 4) rfl ?_
  intro T244 X244 e244
  refine ifN X244 hx (hb hby d_jdk_56m3_4) (q := 7) rfl (by decide) ?_
  refine aL X244 hx (hb hby d_jdk_56m3_7) (q := 8) rfl rfl rfl ?_
  refine g_insN X244 hx hZ0 hown0 (wd92 hw) P3 (NS.no (wd88 hw) (wd123 hw) (NS.step (wd88 hw) (NS.step (wd89 hw) (NS.step (wd90 hw) (NS.root (wd91 hw) (wd123 hw) (by decide)) (by decide)) (by decide)) (by decide)) (by decide)) e244 (hb hby d_jdk_56m3_8) (q := 11) rfl ?_
  intro T245 X245 e245
  refine ifY X245 hx (hb hby d_jdk_56m3_11) (q := 31) (by decide) (by decide) (by decide) ?_
  refine aL X245 hx (hb hby d_jdk_56m3_31) (q := 32) rfl rfl rfl ?_
  refine g_if X245 hx hZ0 hown0 (wd93 hw) (wd94 hw) (wd95 hw) rfl (wd96 hw) (wd97 hw) (wd98 hw) (wd99 hw) (wd100 hw) (by decide) P3 e245 (Con.back (W := 0) (rm_isempty2 l Z a0 hw zC SC PC aE SE aD SD aM SM mO MO a1 h0 O0 P4) hZ0 (wd101 hw) (wd50 hw) (by decide) (by decide)) (by rw [hml]; rfl) (lenOf pd9 rfl) rfl (Nat.le_of_eq rfl) (hb hby d_jdk_56m3_32) (q := 37) rfl (by decide) (by decide) ?_
  intro v246 T246 L246 X246 Q246
  obtain ⟨rfl, Nq246, e246⟩ := Q246
  have N246 := Fr.app N0 Nq246
  show Go _ _ _ _ (T246.setTop (mkF m 37 #[.val (.ref a1), .unset] [(.int (0 : Int32))]))
  refine ifY X246 hx (hb hby d_jdk_56m3_37) (q := 44) (by decide) (by decide) (by decide) ?_
  refine aL X246 hx (hb hby d_jdk_56m3_44) (q := 45) rfl rfl rfl ?_
  refine g_if X246 hx hZ0 hown0 (wd206 hw) (wd207 hw) (wd208 hw) rfl (wd209 hw) (wd210 hw) (wd211 hw) (wd212 hw) (wd100 hw) (by decide) P3 e246 (Con.back (W := 0) (rm_toarr2 l Z a0 hw zC SC PC aE SE aD SD aM SM mO MO a1 r kr x0 x1 h0 O0 P3 P4 P5 P1 P2 PX0 PX1) hZ0 (wd213 hw) (wd50 hw) (by decide) (by decide)) (by rw [hml]; rfl) (lenOf pd3 rfl) rfl (Nat.le_of_eq rfl) (hb hby d_jdk_56m3_45) (q := 50) rfl (by decide) (by decide) ?_
  intro v247 T247 L247 X247 Q247
  obtain ⟨c_247, kc_247, rfl, Nq247, K247q, q247_0, q247_1⟩ := Q247
  have N247 := Fr.app N246 Nq247
  show Go _ _ _ _ (T247.setTop (mkF m 50 #[.val (.ref a1), .unset] [(.ref c_247)]))
  have f249 : Old Z Z.heap.size T247.heap := O0.keep K247q all0
  refine g_st X247 hx hZ0 hown0 (wd236 hw) (wd237 hw) (wd81 hw) (wd238 hw) (by decide) rfl (Con.back (W := 0) (rm_ofa2 l Z a0 hw zC SC PC aE SE aD SD aM SM mO MO c_247 kc_247 x0 x1 T247.heap f249 q247_1) hZ0 (wd238 hw) (wd81 hw) (by decide) (by decide)) (by rw [hml]; rfl) (lenOf pd10 rfl) rfl (Nat.le_of_eq rfl) (hb hby d_jdk_56m3_50) (q := 53) rfl (by decide) (by decide) ?_
  intro v248 T248 L248 X248 Q248
  obtain ⟨q_248, rfl, Nq248, K248q, q248_0, q248_1, q248_2, q248_3⟩ := Q248
  have N248 := Fr.app N247 Nq248
  show Go _ _ _ _ (T248.setTop (mkF m 53 #[.val (.ref a1), .unset] [(.ref q_248)]))
  have K250 : Keep h0 T247.heap [] := (Keep.refl h0 []).trans K247q all0
  have K251 : Keep h0 T248.heap [] := K250.trans K248q all0
  have le253 : (h0).size ≤ (T247.heap).size := K247q.1
  have gh252 : h0.size ≤ q_248 := Nat.le_trans le253 q248_0
  refine endP X248 hlk (fun h => by rw [hret] at h; cases h) (lastA X248 hx hret rfl rfl rfl (hb hby d_jdk_56m3_53)) ?_ (by decide) (by decide)
  exact ⟨q_248, rfl, N248, K251, gh252, q248_1, q248_2, q248_3⟩
def Q_co2 (Z : State) (zC : Int32) (aE : Addr) (aD : Addr) (aM : Addr) (mO : Addr) (a1 : Addr) (r : Addr) (kr : ClassId) (x0 : Addr) (x1 : Addr) (h0 : Heap) (v : Option Value) (h : Heap) (L : List Loc) : Prop := ∃ (q : Addr), v = some (.ref q) ∧ Fr Z.heap.size L ∧ Keep h0 h [] ∧ h0.size ≤ q ∧ Exa Z h q "java/util/ImmutableCollections$List12" ∧ Fld Z h q "java/util/ImmutableCollections$List12" "e0" "Ljava/lang/Object;" (.ref x0) ∧ Fld Z h q "java/util/ImmutableCollections$List12" "e1" "Ljava/lang/Object;" (.ref x1)
theorem rm_co2 (l : Launch) (Z : State) (a0 : Array Value) (hw : HW a0 Z) (zC : Int32) (SC : tSC Z zC) (PC : ¬ zC = (0 : Int32)) (aE : Addr) (SE : tSE Z aE) (aD : Addr) (SD : tSD Z aD) (aM : Addr) (SM : tSM Z aM) (mO : Addr) (MO : tMO Z mO) (a1 : Addr) (r : Addr) (kr : ClassId) (x0 : Addr) (x1 : Addr) (h0 : Heap) (O0 : Old Z Z.heap.size h0) (P3 : Exa Z h0 a1 "java/util/ArrayList") (P4 : Fld Z h0 a1 "java/util/ArrayList" "size" "I" (.int (2 : Int32))) (P5 : Fld Z h0 a1 "java/util/ArrayList" "elementData" "[Ljava/lang/Object;" (.ref r)) (P1 : Arv Z h0 r kr (.object "java/lang/Object") (10 : Int32) [(.ref x0), (.ref x1), .null, .null, .null, .null, .null, .null, .null, .null] .null) (P2 : Exa Z h0 r "[Ljava/lang/Object;") (PX0 : Exa Z h0 x0 "com/example/quaymark/quaymark/Review$LeftOut") (PX1 : Exa Z h0 x1 "com/example/quaymark/quaymark/Review$LeftOut") :
    Con l Z (⟨"java/util/List", "copyOf", "(Ljava/util/Collection;)Ljava/util/List;"⟩ : MethodName) jdk_40_method_48_code 1 (some (.object "java/util/List")) ({ frames := 7, cells := 2, slots := 4, locals := 89 } : Room) #[(.ref a1)] h0 (Q_co2 Z zC aE aD aM mO a1 r kr x0 x1 h0) := by
  refine Con.intro (plainFor_of_name pn13) ?_
  intro p e s m below meth c T0 X0 hx hby hml hown0 hnm hret hlk hZ0 e0
  have N0 := Fr.nil Z.heap.size
  refine castGo (g' := mkF m 0 #[.val (.ref a1)] []) (by first | rfl | (simp [entryFrame, mkF, argsToLocals, Value.category]; done)) ?_
  show Go _ _ _ _ (T0.setTop (mkF m 0 #[.val (.ref a1)] []))
  refine aL X0 hx (hb hby d_jdk_40m48_0) (q := 1) rfl rfl rfl ?_
  refine g_st X0 hx hZ0 hown0 (wd83 hw) (wd84 hw) (wd85 hw) (wd86 hw) (by decide) e0 (Con.back (W := 0) (rm_lc2 l Z a0 hw zC SC PC aE SE aD SD aM SM mO MO a1 r kr x0 x1 h0 O0 P3 P4 P5 P1 P2 PX0 PX1) hZ0 (wd86 hw) (wd85 hw) (by decide) (by decide)) (by rw [hml]; rfl) (lenOf pd11 rfl) rfl (Nat.le_of_eq rfl) (hb hby d_jdk_40m48_1) (q := 4) rfl (by decide) (by decide) ?_
  intro v254 T254 L254 X254 Q254
  obtain ⟨q_254, rfl, Nq254, K254q, q254_0, q254_1, q254_2, q254_3⟩ := Q254
  have N254 := Fr.app N0 Nq254
  show Go _ _ _ _ (T254.setTop (mkF m 4 #[.val (.ref a1)] [(.ref q_254)]))
  have K255 : Keep h0 T254.heap [] := (Keep.refl h0 []).trans K254q all0
  have gh256 : h0.size ≤ q_254 := Nat.le_trans (Nat.le_refl _) q254_0
  refine endP X254 hlk (fun h => by rw [hret] at h; cases h) (lastA X254 hx hret rfl rfl rfl (hb hby d_jdk_40m48_4)) ?_ (by decide) (by decide)
  exact ⟨q_254, rfl, N254, K255, gh256, q254_1, q254_2, q254_3⟩
theorem d_jdk_40m36_0 : decode jdk_40_method_36_code 0 = .ok (.getstatic 90, 3) := by decide +kernel
theorem wd107 {a0 : Array Value} {Z : State} (hw : HW a0 Z) : ((Jvm.Cond.fieldLink "java/util/List" (90 : Nat) "java/util/ImmutableCollections" "EMPTY_LIST" "Ljava/util/ImmutableCollections$ListN;") : Jvm.Cond).before a0 Z = true := hw _ (List.mem_of_getElem? (i := 107) rfl)
theorem d_jdk_40m36_3 : decode jdk_40_method_36_code 3 = .ok (.areturn, 1) := by decide +kernel
def Q_listof (Z : State) (zC : Int32) (aE : Addr) (aD : Addr) (aM : Addr) (mO : Addr) (h0 : Heap) (v : Option Value) (h : Heap) (L : List Loc) : Prop := v = some (.ref aE) ∧ Fr Z.heap.size L ∧ h = h0
theorem rm_listof (l : Launch) (Z : State) (a0 : Array Value) (hw : HW a0 Z) (zC : Int32) (SC : tSC Z zC) (PC : ¬ zC = (0 : Int32)) (aE : Addr) (SE : tSE Z aE) (aD : Addr) (SD : tSD Z aD) (aM : Addr) (SM : tSM Z aM) (mO : Addr) (MO : tMO Z mO)  (h0 : Heap) (O0 : Old Z Z.heap.size h0)  :
    Con l Z (⟨"java/util/List", "of", "()Ljava/util/List;"⟩ : MethodName) jdk_40_method_36_code 0 (some (.object "java/util/List")) ({ frames := 0, cells := 0, slots := 0, locals := 0 } : Room) #[] h0 (Q_listof Z zC aE aD aM mO h0) := by
  refine Con.intro (plainFor_of_name pn13) ?_
  intro p e s m below meth c T0 X0 hx hby hml hown0 hnm hret hlk hZ0 e0
  have N0 := Fr.nil Z.heap.size
  refine castGo (g' := mkF m 0 #[] []) (by first | rfl | (simp [entryFrame, mkF, argsToLocals, Value.category]; done)) ?_
  show Go _ _ _ _ (T0.setTop (mkF m 0 #[] []))
  refine g_getS X0 hx hZ0 hown0 (host := "") (Or.inl (wd107 hw)) Via.refl (SE.ext O0.2) e0 (hb hby d_jdk_40m36_0) (q := 3) rfl ?_
  intro T257 X257 e257
  refine endP X257 hlk (fun h => by rw [hret] at h; cases h) (lastA X257 hx hret rfl rfl rfl (hb hby d_jdk_40m36_3)) ?_ (by decide) (by decide)
  rw [e257]
  exact ⟨rfl, N0, rfl⟩
theorem d_jdk_56m3_40 : decode jdk_56_method_3_code 40 = .ok (.invokestatic 26, 3) := by decide +kernel
theorem wd106 {a0 : Array Value} {Z : State} (hw : HW a0 Z) : ((Jvm.Cond.code ({ cls := "java/util/List", name := "of", desc := "()Ljava/util/List;" } : Jvm.MethodName) jdk_40_method_36_code (0 : Nat) (Option.some (Jvm.ClassFile.FieldType.object "java/util/List"))) : Jvm.Cond).before a0 Z = true := hw _ (List.mem_of_getElem? (i := 106) rfl)
theorem pd13 : parseMethodDescriptor "()Ljava/util/List;" = some ⟨[], some (.object "java/util/List")⟩ := by decide +kernel
theorem wd104 {a0 : Array Value} {Z : State} (hw : HW a0 Z) : ((Jvm.Cond.methodLink "java/util/ImmutableCollections" (26 : Nat) ({ cls := "java/util/List", name := "of", desc := "()Ljava/util/List;" } : Jvm.MethodName)) : Jvm.Cond).before a0 Z = true := hw _ (List.mem_of_getElem? (i := 104) rfl)
theorem wd105 {a0 : Array Value} {Z : State} (hw : HW a0 Z) : ((Jvm.Cond.static ({ cls := "java/util/List", name := "of", desc := "()Ljava/util/List;" } : Jvm.MethodName)) : Jvm.Cond).before a0 Z = true := hw _ (List.mem_of_getElem? (i := 105) rfl)
theorem d_jdk_56m3_43 : decode jdk_56_method_3_code 43 = .ok (.areturn, 1) := by decide +kernel
def Q_lc0 (Z : State) (zC : Int32) (aE : Addr) (aD : Addr) (aM : Addr) (mO : Addr) (a1 : Addr) (h0 : Heap) (v : Option Value) (h : Heap) (L : List Loc) : Prop := v = some (.ref aE) ∧ Fr Z.heap.size L ∧ h = h0
theorem rm_lc0 (l : Launch) (Z : State) (a0 : Array Value) (hw : HW a0 Z) (zC : Int32) (SC : tSC Z zC) (PC : ¬ zC = (0 : Int32)) (aE : Addr) (SE : tSE Z aE) (aD : Addr) (SD : tSD Z aD) (aM : Addr) (SM : tSM Z aM) (mO : Addr) (MO : tMO Z mO) (a1 : Addr) (h0 : Heap) (O0 : Old Z Z.heap.size h0) (P3 : Exa Z h0 a1 "java/util/ArrayList") (P4 : Fld Z h0 a1 "java/util/ArrayList" "size" "I" (.int (0 : Int32))) :
    Con l Z (⟨"java/util/ImmutableCollections", "listCopy", "(Ljava/util/Collection;)Ljava/util/List;"⟩ : MethodName) jdk_56_method_3_code 2 (some (.object "java/util/List")) ({ frames := 1, cells := 0, slots := 0, locals := 12 } : Room) #[(.ref a1)] h0 (Q_lc0 Z zC aE aD aM mO a1 h0) := by
  refine Con.intro (plainFor_of_name pn14) ?_
  intro p e s m below meth c T0 X0 hx hby hml hown0 hnm hret hlk hZ0 e0
  have N0 := Fr.nil Z.heap.size
  refine castGo (g' := mkF m 0 #[.val (.ref a1), .unset] []) (by first | rfl | (simp [entryFrame, mkF, argsToLocals, Value.category]; done)) ?_
  show Go _ _ _ _ (T0.setTop (mkF m 0 #[.val (.ref a1), .unset] []))
  refine aL X0 hx (hb hby d_jdk_56m3_0) (q := 1) rfl rfl rfl ?_
  refine g_insN X0 hx hZ0 hown0 (wd87 hw) P3 (nsi_no (wd88 hw) (wd240 hw) (NS.step (wd88 hw) (NS.step (wd89 hw) (NS.step (wd90 hw) (nsi_root (wd91 hw) (wd240 hw) (by decide)) (by decide)) (by decide)) (by decide)) (by decide)) e0 (hb hby d_jdk_56m3_1) (q := 4) rfl ?_
  intro T258 X258 e258
  refine ifN X258 hx (hb hby d_jdk_56m3_4) (q := 7) rfl (by decide) ?_
  refine aL X258 hx (hb hby d_jdk_56m3_7) (q := 8) rfl rfl rfl ?_
  refine g_insN X258 hx hZ0 hown0 (wd92 hw) P3 (NS.no (wd88 hw) (wd123 hw) (NS.step (wd88 hw) (NS.step (wd89 hw) (NS.step (wd90 hw) (NS.root (wd91 hw) (wd123 hw) (by decide)) (by decide)) (by decide)) (by decide)) (by decide)) e258 (hb hby d_jdk_56m3_8) (q := 11) rfl ?_
  intro T259 X259 e259
  refine ifY X259 hx (hb hby d_jdk_56m3_11) (q := 31) (by decide) (by decide) (by decide) ?_
  refine aL X259 hx (hb hby d_jdk_56m3_31) (q := 32) rfl rfl rfl ?_
  refine g_if X259 hx hZ0 hown0 (wd93 hw) (wd94 hw) (wd95 hw) rfl (wd96 hw) (wd97 hw) (wd98 hw) (wd99 hw) (wd100 hw) (by decide) P3 e259 (Con.back (W := 0) (rm_isempty0 l Z a0 hw zC SC PC aE SE aD SD aM SM mO MO a1 h0 O0 P4) hZ0 (wd101 hw) (wd50 hw) (by decide) (by decide)) (by rw [hml]; rfl) (lenOf pd9 rfl) rfl (Nat.le_of_eq rfl) (hb hby d_jdk_56m3_32) (q := 37) rfl (by decide) (by decide) ?_
  intro v260 T260 L260 X260 Q260
  obtain ⟨rfl, Nq260, e260⟩ := Q260
  have N260 := Fr.app N0 Nq260
  show Go _ _ _ _ (T260.setTop (mkF m 37 #[.val (.ref a1), .unset] [(.int (1 : Int32))]))
  refine ifN X260 hx (hb hby d_jdk_56m3_37) (q := 40) rfl (by decide) ?_
  refine g_st X260 hx hZ0 hown0 (wd104 hw) (wd105 hw) (wd81 hw) (wd106 hw) (by decide) e260 (Con.back (W := 0) (rm_listof l Z a0 hw zC SC PC aE SE aD SD aM SM mO MO  h0 O0 ) hZ0 (wd106 hw) (wd81 hw) (by decide) (by decide)) (by rw [hml]; rfl) (lenOf pd13 rfl) rfl (Nat.le_of_eq rfl) (hb hby d_jdk_56m3_40) (q := 43) rfl (by decide) (by decide) ?_
  intro v261 T261 L261 X261 Q261
  obtain ⟨rfl, Nq261, e261⟩ := Q261
  have N261 := Fr.app N260 Nq261
  show Go _ _ _ _ (T261.setTop (mkF m 43 #[.val (.ref a1), .unset] [(.ref aE)]))
  refine endP X261 hlk (fun h => by rw [hret] at h; cases h) (lastA X261 hx hret rfl rfl rfl (hb hby d_jdk_56m3_43)) ?_ (by decide) (by decide)
  rw [e261]
  exact ⟨rfl, N261, rfl⟩
theorem wd125 {a0 : Array Value} {Z : State} (hw : HW a0 Z) : ((Jvm.Cond.superclass "java/util/ImmutableCollections$AbstractImmutableCollection" "java/util/AbstractCollection") : Jvm.Cond).before a0 Z = true := hw _ (List.mem_of_getElem? (i := 125) rfl)
theorem wd124 {a0 : Array Value} {Z : State} (hw : HW a0 Z) : ((Jvm.Cond.superclass "java/util/ImmutableCollections$AbstractImmutableList" "java/util/ImmutableCollections$AbstractImmutableCollection") : Jvm.Cond).before a0 Z = true := hw _ (List.mem_of_getElem? (i := 124) rfl)
theorem d_jdk_56m3_14 : decode jdk_56_method_3_code 14 = .ok (.aload_n 0, 1) := by decide +kernel
theorem d_jdk_56m3_15 : decode jdk_56_method_3_code 15 = .ok (.checkcast 12, 3) := by decide +kernel
theorem d_jdk_56m3_18 : decode jdk_56_method_3_code 18 = .ok (.astore_n 1, 1) := by decide +kernel
theorem d_jdk_56m3_19 : decode jdk_56_method_3_code 19 = .ok (.aload_n 1, 1) := by decide +kernel
theorem d_jdk_56m3_20 : decode jdk_56_method_3_code 20 = .ok (.getfield 14, 3) := by decide +kernel
theorem wd127 {a0 : Array Value} {Z : State} (hw : HW a0 Z) : ((Jvm.Cond.fieldLinkNest "java/util/ImmutableCollections" (14 : Nat) "java/util/ImmutableCollections$ListN" "allowNulls" "Z" "java/util/ImmutableCollections") : Jvm.Cond).before a0 Z = true := hw _ (List.mem_of_getElem? (i := 127) rfl)
theorem d_jdk_56m3_23 : decode jdk_56_method_3_code 23 = .ok (.ifCond .ne 8, 3) := by decide +kernel
theorem d_jdk_56m3_26 : decode jdk_56_method_3_code 26 = .ok (.aload_n 0, 1) := by decide +kernel
theorem d_jdk_56m3_27 : decode jdk_56_method_3_code 27 = .ok (.checkcast 18, 3) := by decide +kernel
theorem wd129 {a0 : Array Value} {Z : State} (hw : HW a0 Z) : ((Jvm.Cond.classLink "java/util/ImmutableCollections" (18 : Nat) "java/util/List") : Jvm.Cond).before a0 Z = true := hw _ (List.mem_of_getElem? (i := 129) rfl)
theorem wd130 {a0 : Array Value} {Z : State} (hw : HW a0 Z) : ((Jvm.Cond.castable "java/util/ImmutableCollections$ListN" "java/util/List") : Jvm.Cond).before a0 Z = true := hw _ (List.mem_of_getElem? (i := 130) rfl)
theorem d_jdk_56m3_30 : decode jdk_56_method_3_code 30 = .ok (.areturn, 1) := by decide +kernel
def Q_lcE (Z : State) (zC : Int32) (aE : Addr) (aD : Addr) (aM : Addr) (mO : Addr) (eA : Addr) (eK : ClassId) (eL : List Value) (h0 : Heap) (v : Option Value) (h : Heap) (L : List Loc) : Prop := v = some (.ref aE) ∧ Fr Z.heap.size L ∧ h = h0
theorem rm_lcE (l : Launch) (Z : State) (a0 : Array Value) (hw : HW a0 Z) (zC : Int32) (SC : tSC Z zC) (PC : ¬ zC = (0 : Int32)) (aE : Addr) (SE : tSE Z aE) (aD : Addr) (SD : tSD Z aD) (aM : Addr) (SM : tSM Z aM) (mO : Addr) (MO : tMO Z mO) (eA : Addr) (eK : ClassId) (eL : List Value) (h0 : Heap) (O0 : Old Z Z.heap.size h0) (PE1 : Exa Z h0 aE "java/util/ImmutableCollections$ListN") (PE2 : Fld Z h0 aE "java/util/ImmutableCollections$ListN" "elements" "[Ljava/lang/Object;" (.ref eA)) (PE3 : Arv Z h0 eA eK (.object "java/lang/Object") (0 : Int32) eL .null) (PE4 : Fld Z h0 aE "java/util/ImmutableCollections$ListN" "allowNulls" "Z" (.int (0 : Int32))) :
    Con l Z (⟨"java/util/ImmutableCollections", "listCopy", "(Ljava/util/Collection;)Ljava/util/List;"⟩ : MethodName) jdk_56_method_3_code 2 (some (.object "java/util/List")) ({ frames := 0, cells := 0, slots := 0, locals := 0 } : Room) #[(.ref aE)] h0 (Q_lcE Z zC aE aD aM mO eA eK eL h0) := by
  refine Con.intro (plainFor_of_name pn14) ?_
  intro p e s m below meth c T0 X0 hx hby hml hown0 hnm hret hlk hZ0 e0
  have N0 := Fr.nil Z.heap.size
  refine castGo (g' := mkF m 0 #[.val (.ref aE), .unset] []) (by first | rfl | (simp [entryFrame, mkF, argsToLocals, Value.category]; done)) ?_
  show Go _ _ _ _ (T0.setTop (mkF m 0 #[.val (.ref aE), .unset] []))
  refine aL X0 hx (hb hby d_jdk_56m3_0) (q := 1) rfl rfl rfl ?_
  refine g_insN X0 hx hZ0 hown0 (wd87 hw) PE1 (nsi_no (wd123 hw) (wd240 hw) (NS.step (wd123 hw) (NS.step (wd124 hw) (NS.step (wd125 hw) (NS.step (wd90 hw) (nsi_root (wd91 hw) (wd240 hw) (by decide)) (by decide)) (by decide)) (by decide)) (by decide)) (by decide)) e0 (hb hby d_jdk_56m3_1) (q := 4) rfl ?_
  intro T262 X262 e262
  refine ifN X262 hx (hb hby d_jdk_56m3_4) (q := 7) rfl (by decide) ?_
  refine aL X262 hx (hb hby d_jdk_56m3_7) (q := 8) rfl rfl rfl ?_
  refine g_insY X262 hx hZ0 hown0 (wd92 hw) (Ins.self PE1) e262 (hb hby d_jdk_56m3_8) (q := 11) rfl ?_
  intro T263 X263 e263
  refine ifN X263 hx (hb hby d_jdk_56m3_11) (q := 14) rfl (by decide) ?_
  refine aL X263 hx (hb hby d_jdk_56m3_14) (q := 15) rfl rfl rfl ?_
  refine g_cast X263 hx hZ0 hown0 (wd92 hw) (Ins.self PE1) e263 (hb hby d_jdk_56m3_15) (q := 18) rfl ?_
  intro T264 X264 e264
  refine sA X264 hx (hb hby d_jdk_56m3_18) (q := 19) rfl rfl (Ls' := #[.val (.ref aE), .val (.ref aE)]) rfl ?_
  refine aL X264 hx (hb hby d_jdk_56m3_19) (q := 20) rfl rfl rfl ?_
  refine g_getF X264 hx hZ0 hown0 (Or.inr (wd127 hw)) Via.refl PE4 e264 (hb hby d_jdk_56m3_20) (q := 23) rfl ?_
  intro T265 X265 e265
  refine ifN X265 hx (hb hby d_jdk_56m3_23) (q := 26) rfl (by decide) ?_
  refine aL X265 hx (hb hby d_jdk_56m3_26) (q := 27) rfl rfl rfl ?_
  refine g_cast X265 hx hZ0 hown0 (wd129 hw) (Ins.of_exa PE1 (wd130 hw)) e265 (hb hby d_jdk_56m3_27) (q := 30) rfl ?_
  intro T266 X266 e266
  refine endP X266 hlk (fun h => by rw [hret] at h; cases h) (lastA X266 hx hret rfl rfl rfl (hb hby d_jdk_56m3_30)) ?_ (by decide) (by decide)
  rw [e266]
  exact ⟨rfl, N0, rfl⟩
theorem wd268 {a0 : Array Value} {Z : State} (hw : HW a0 Z) : ((Jvm.Cond.castable "java/util/ImmutableCollections$List12" "java/util/List") : Jvm.Cond).before a0 Z = true := hw _ (List.mem_of_getElem? (i := 268) rfl)
def Q_lcL (Z : State) (zC : Int32) (aE : Addr) (aD : Addr) (aM : Addr) (mO : Addr) (a1 : Addr) (h0 : Heap) (v : Option Value) (h : Heap) (L : List Loc) : Prop := v = some (.ref a1) ∧ Fr Z.heap.size L ∧ h = h0
theorem rm_lcL (l : Launch) (Z : State) (a0 : Array Value) (hw : HW a0 Z) (zC : Int32) (SC : tSC Z zC) (PC : ¬ zC = (0 : Int32)) (aE : Addr) (SE : tSE Z aE) (aD : Addr) (SD : tSD Z aD) (aM : Addr) (SM : tSM Z aM) (mO : Addr) (MO : tMO Z mO) (a1 : Addr) (h0 : Heap) (O0 : Old Z Z.heap.size h0) (P1 : Exa Z h0 a1 "java/util/ImmutableCollections$List12") :
    Con l Z (⟨"java/util/ImmutableCollections", "listCopy", "(Ljava/util/Collection;)Ljava/util/List;"⟩ : MethodName) jdk_56_method_3_code 2 (some (.object "java/util/List")) ({ frames := 0, cells := 0, slots := 0, locals := 0 } : Room) #[(.ref a1)] h0 (Q_lcL Z zC aE aD aM mO a1 h0) := by
  refine Con.intro (plainFor_of_name pn14) ?_
  intro p e s m below meth c T0 X0 hx hby hml hown0 hnm hret hlk hZ0 e0
  have N0 := Fr.nil Z.heap.size
  refine castGo (g' := mkF m 0 #[.val (.ref a1), .unset] []) (by first | rfl | (simp [entryFrame, mkF, argsToLocals, Value.category]; done)) ?_
  show Go _ _ _ _ (T0.setTop (mkF m 0 #[.val (.ref a1), .unset] []))
  refine aL X0 hx (hb hby d_jdk_56m3_0) (q := 1) rfl rfl rfl ?_
  refine g_insY X0 hx hZ0 hown0 (wd87 hw) (Ins.self P1) e0 (hb hby d_jdk_56m3_1) (q := 4) rfl ?_
  intro T267 X267 e267
  refine ifY X267 hx (hb hby d_jdk_56m3_4) (q := 26) (by decide) (by decide) (by decide) ?_
  refine aL X267 hx (hb hby d_jdk_56m3_26) (q := 27) rfl rfl rfl ?_
  refine g_cast X267 hx hZ0 hown0 (wd129 hw) (Ins.of_exa P1 (wd268 hw)) e267 (hb hby d_jdk_56m3_27) (q := 30) rfl ?_
  intro T268 X268 e268
  refine endP X268 hlk (fun h => by rw [hret] at h; cases h) (lastA X268 hx hret rfl rfl rfl (hb hby d_jdk_56m3_30)) ?_ (by decide) (by decide)
  rw [e268]
  exact ⟨rfl, N0, rfl⟩
def Q_co0 (Z : State) (zC : Int32) (aE : Addr) (aD : Addr) (aM : Addr) (mO : Addr) (a1 : Addr) (h0 : Heap) (v : Option Value) (h : Heap) (L : List Loc) : Prop := v = some (.ref aE) ∧ Fr Z.heap.size L ∧ h = h0
theorem rm_co0 (l : Launch) (Z : State) (a0 : Array Value) (hw : HW a0 Z) (zC : Int32) (SC : tSC Z zC) (PC : ¬ zC = (0 : Int32)) (aE : Addr) (SE : tSE Z aE) (aD : Addr) (SD : tSD Z aD) (aM : Addr) (SM : tSM Z aM) (mO : Addr) (MO : tMO Z mO) (a1 : Addr) (h0 : Heap) (O0 : Old Z Z.heap.size h0) (P3 : Exa Z h0 a1 "java/util/ArrayList") (P4 : Fld Z h0 a1 "java/util/ArrayList" "size" "I" (.int (0 : Int32))) :
    Con l Z (⟨"java/util/List", "copyOf", "(Ljava/util/Collection;)Ljava/util/List;"⟩ : MethodName) jdk_40_method_48_code 1 (some (.object "java/util/List")) ({ frames := 2, cells := 0, slots := 0, locals := 25 } : Room) #[(.ref a1)] h0 (Q_co0 Z zC aE aD aM mO a1 h0) := by
  refine Con.intro (plainFor_of_name pn13) ?_
  intro p e s m below meth c T0 X0 hx hby hml hown0 hnm hret hlk hZ0 e0
  have N0 := Fr.nil Z.heap.size
  refine castGo (g' := mkF m 0 #[.val (.ref a1)] []) (by first | rfl | (simp [entryFrame, mkF, argsToLocals, Value.category]; done)) ?_
  show Go _ _ _ _ (T0.setTop (mkF m 0 #[.val (.ref a1)] []))
  refine aL X0 hx (hb hby d_jdk_40m48_0) (q := 1) rfl rfl rfl ?_
  refine g_st X0 hx hZ0 hown0 (wd83 hw) (wd84 hw) (wd85 hw) (wd86 hw) (by decide) e0 (Con.back (W := 0) (rm_lc0 l Z a0 hw zC SC PC aE SE aD SD aM SM mO MO a1 h0 O0 P3 P4) hZ0 (wd86 hw) (wd85 hw) (by decide) (by decide)) (by rw [hml]; rfl) (lenOf pd11 rfl) rfl (Nat.le_of_eq rfl) (hb hby d_jdk_40m48_1) (q := 4) rfl (by decide) (by decide) ?_
  intro v269 T269 L269 X269 Q269
  obtain ⟨rfl, Nq269, e269⟩ := Q269
  have N269 := Fr.app N0 Nq269
  show Go _ _ _ _ (T269.setTop (mkF m 4 #[.val (.ref a1)] [(.ref aE)]))
  refine endP X269 hlk (fun h => by rw [hret] at h; cases h) (lastA X269 hx hret rfl rfl rfl (hb hby d_jdk_40m48_4)) ?_ (by decide) (by decide)
  rw [e269]
  exact ⟨rfl, N269, rfl⟩
def Q_coE (Z : State) (zC : Int32) (aE : Addr) (aD : Addr) (aM : Addr) (mO : Addr) (eA : Addr) (eK : ClassId) (eL : List Value) (h0 : Heap) (v : Option Value) (h : Heap) (L : List Loc) : Prop := v = some (.ref aE) ∧ Fr Z.heap.size L ∧ h = h0
theorem rm_coE (l : Launch) (Z : State) (a0 : Array Value) (hw : HW a0 Z) (zC : Int32) (SC : tSC Z zC) (PC : ¬ zC = (0 : Int32)) (aE : Addr) (SE : tSE Z aE) (aD : Addr) (SD : tSD Z aD) (aM : Addr) (SM : tSM Z aM) (mO : Addr) (MO : tMO Z mO) (eA : Addr) (eK : ClassId) (eL : List Value) (h0 : Heap) (O0 : Old Z Z.heap.size h0) (PE1 : Exa Z h0 aE "java/util/ImmutableCollections$ListN") (PE2 : Fld Z h0 aE "java/util/ImmutableCollections$ListN" "elements" "[Ljava/lang/Object;" (.ref eA)) (PE3 : Arv Z h0 eA eK (.object "java/lang/Object") (0 : Int32) eL .null) (PE4 : Fld Z h0 aE "java/util/ImmutableCollections$ListN" "allowNulls" "Z" (.int (0 : Int32))) :
    Con l Z (⟨"java/util/List", "copyOf", "(Ljava/util/Collection;)Ljava/util/List;"⟩ : MethodName) jdk_40_method_48_code 1 (some (.object "java/util/List")) ({ frames := 1, cells := 0, slots := 0, locals := 13 } : Room) #[(.ref aE)] h0 (Q_coE Z zC aE aD aM mO eA eK eL h0) := by
  refine Con.intro (plainFor_of_name pn13) ?_
  intro p e s m below meth c T0 X0 hx hby hml hown0 hnm hret hlk hZ0 e0
  have N0 := Fr.nil Z.heap.size
  refine castGo (g' := mkF m 0 #[.val (.ref aE)] []) (by first | rfl | (simp [entryFrame, mkF, argsToLocals, Value.category]; done)) ?_
  show Go _ _ _ _ (T0.setTop (mkF m 0 #[.val (.ref aE)] []))
  refine aL X0 hx (hb hby d_jdk_40m48_0) (q := 1) rfl rfl rfl ?_
  refine g_st X0 hx hZ0 hown0 (wd83 hw) (wd84 hw) (wd85 hw) (wd86 hw) (by decide) e0 (Con.back (W := 0) (rm_lcE l Z a0 hw zC SC PC aE SE aD SD aM SM mO MO eA eK eL h0 O0 PE1 PE2 PE3 PE4) hZ0 (wd86 hw) (wd85 hw) (by decide) (by decide)) (by rw [hml]; rfl) (lenOf pd11 rfl) rfl (Nat.le_of_eq rfl) (hb hby d_jdk_40m48_1) (q := 4) rfl (by decide) (by decide) ?_
  intro v270 T270 L270 X270 Q270
  obtain ⟨rfl, Nq270, e270⟩ := Q270
  have N270 := Fr.app N0 Nq270
  show Go _ _ _ _ (T270.setTop (mkF m 4 #[.val (.ref aE)] [(.ref aE)]))
  refine endP X270 hlk (fun h => by rw [hret] at h; cases h) (lastA X270 hx hret rfl rfl rfl (hb hby d_jdk_40m48_4)) ?_ (by decide) (by decide)
  rw [e270]
  exact ⟨rfl, N270, rfl⟩
def Q_coL (Z : State) (zC : Int32) (aE : Addr) (aD : Addr) (aM : Addr) (mO : Addr) (a1 : Addr) (h0 : Heap) (v : Option Value) (h : Heap) (L : List Loc) : Prop := v = some (.ref a1) ∧ Fr Z.heap.size L ∧ h = h0
theorem rm_coL (l : Launch) (Z : State) (a0 : Array Value) (hw : HW a0 Z) (zC : Int32) (SC : tSC Z zC) (PC : ¬ zC = (0 : Int32)) (aE : Addr) (SE : tSE Z aE) (aD : Addr) (SD : tSD Z aD) (aM : Addr) (SM : tSM Z aM) (mO : Addr) (MO : tMO Z mO) (a1 : Addr) (h0 : Heap) (O0 : Old Z Z.heap.size h0) (P1 : Exa Z h0 a1 "java/util/ImmutableCollections$List12") :
    Con l Z (⟨"java/util/List", "copyOf", "(Ljava/util/Collection;)Ljava/util/List;"⟩ : MethodName) jdk_40_method_48_code 1 (some (.object "java/util/List")) ({ frames := 1, cells := 0, slots := 0, locals := 13 } : Room) #[(.ref a1)] h0 (Q_coL Z zC aE aD aM mO a1 h0) := by
  refine Con.intro (plainFor_of_name pn13) ?_
  intro p e s m below meth c T0 X0 hx hby hml hown0 hnm hret hlk hZ0 e0
  have N0 := Fr.nil Z.heap.size
  refine castGo (g' := mkF m 0 #[.val (.ref a1)] []) (by first | rfl | (simp [entryFrame, mkF, argsToLocals, Value.category]; done)) ?_
  show Go _ _ _ _ (T0.setTop (mkF m 0 #[.val (.ref a1)] []))
  refine aL X0 hx (hb hby d_jdk_40m48_0) (q := 1) rfl rfl rfl ?_
  refine g_st X0 hx hZ0 hown0 (wd83 hw) (wd84 hw) (wd85 hw) (wd86 hw) (by decide) e0 (Con.back (W := 0) (rm_lcL l Z a0 hw zC SC PC aE SE aD SD aM SM mO MO a1 h0 O0 P1) hZ0 (wd86 hw) (wd85 hw) (by decide) (by decide)) (by rw [hml]; rfl) (lenOf pd11 rfl) rfl (Nat.le_of_eq rfl) (hb hby d_jdk_40m48_1) (q := 4) rfl (by decide) (by decide) ?_
  intro v271 T271 L271 X271 Q271
  obtain ⟨rfl, Nq271, e271⟩ := Q271
  have N271 := Fr.app N0 Nq271
  show Go _ _ _ _ (T271.setTop (mkF m 4 #[.val (.ref a1)] [(.ref a1)]))
  refine endP X271 hlk (fun h => by rw [hret] at h; cases h) (lastA X271 hx hret rfl rfl rfl (hb hby d_jdk_40m48_4)) ?_ (by decide) (by decide)
  rw [e271]
  exact ⟨rfl, N271, rfl⟩
theorem d_prog_23m1_0 : decode prog_23_method_1_code 0 = .ok (.aload_n 0, 1) := by decide +kernel
theorem d_prog_23m1_1 : decode prog_23_method_1_code 1 = .ok (.invokespecial 1, 3) := by decide +kernel
theorem wd78 {a0 : Array Value} {Z : State} (hw : HW a0 Z) : ((Jvm.Cond.methodLink "com/example/quaymark/quaymark/Review" (1 : Nat) ({ cls := "java/lang/Record", name := "<init>", desc := "()V" } : Jvm.MethodName)) : Jvm.Cond).before a0 Z = true := hw _ (List.mem_of_getElem? (i := 78) rfl)
theorem d_prog_23m1_4 : decode prog_23_method_1_code 4 = .ok (.aload_n 2, 1) := by decide +kernel
theorem d_prog_23m1_5 : decode prog_23_method_1_code 5 = .ok (.invokestatic 7, 3) := by decide +kernel
theorem wd82 {a0 : Array Value} {Z : State} (hw : HW a0 Z) : ((Jvm.Cond.code ({ cls := "java/util/List", name := "copyOf", desc := "(Ljava/util/Collection;)Ljava/util/List;" } : Jvm.MethodName) jdk_40_method_48_code (1 : Nat) (Option.some (Jvm.ClassFile.FieldType.object "java/util/List"))) : Jvm.Cond).before a0 Z = true := hw _ (List.mem_of_getElem? (i := 82) rfl)
theorem wd79 {a0 : Array Value} {Z : State} (hw : HW a0 Z) : ((Jvm.Cond.methodLink "com/example/quaymark/quaymark/Review" (7 : Nat) ({ cls := "java/util/List", name := "copyOf", desc := "(Ljava/util/Collection;)Ljava/util/List;" } : Jvm.MethodName)) : Jvm.Cond).before a0 Z = true := hw _ (List.mem_of_getElem? (i := 79) rfl)
theorem wd80 {a0 : Array Value} {Z : State} (hw : HW a0 Z) : ((Jvm.Cond.static ({ cls := "java/util/List", name := "copyOf", desc := "(Ljava/util/Collection;)Ljava/util/List;" } : Jvm.MethodName)) : Jvm.Cond).before a0 Z = true := hw _ (List.mem_of_getElem? (i := 80) rfl)
theorem d_prog_23m1_8 : decode prog_23_method_1_code 8 = .ok (.astore_n 2, 1) := by decide +kernel
theorem d_prog_23m1_9 : decode prog_23_method_1_code 9 = .ok (.aload_n 0, 1) := by decide +kernel
theorem d_prog_23m1_10 : decode prog_23_method_1_code 10 = .ok (.aload_n 1, 1) := by decide +kernel
theorem d_prog_23m1_11 : decode prog_23_method_1_code 11 = .ok (.putfield 13, 3) := by decide +kernel
theorem wd108 {a0 : Array Value} {Z : State} (hw : HW a0 Z) : ((Jvm.Cond.fieldLink "com/example/quaymark/quaymark/Review" (13 : Nat) "com/example/quaymark/quaymark/Review" "submittedBy" "Ljava/lang/String;") : Jvm.Cond).before a0 Z = true := hw _ (List.mem_of_getElem? (i := 108) rfl)
theorem wd109 {a0 : Array Value} {Z : State} (hw : HW a0 Z) : ((Jvm.Cond.laysFinal "com/example/quaymark/quaymark/Review" "com/example/quaymark/quaymark/Review" "submittedBy" "Ljava/lang/String;") : Jvm.Cond).before a0 Z = true := hw _ (List.mem_of_getElem? (i := 109) rfl)
theorem wd73 {a0 : Array Value} {Z : State} (hw : HW a0 Z) : ((Jvm.Cond.instantiable "com/example/quaymark/quaymark/Review" (4 : Nat)) : Jvm.Cond).before a0 Z = true := hw _ (List.mem_of_getElem? (i := 73) rfl)
theorem d_prog_23m1_14 : decode prog_23_method_1_code 14 = .ok (.aload_n 0, 1) := by decide +kernel
theorem d_prog_23m1_15 : decode prog_23_method_1_code 15 = .ok (.aload_n 2, 1) := by decide +kernel
theorem d_prog_23m1_16 : decode prog_23_method_1_code 16 = .ok (.putfield 19, 3) := by decide +kernel
theorem wd110 {a0 : Array Value} {Z : State} (hw : HW a0 Z) : ((Jvm.Cond.fieldLink "com/example/quaymark/quaymark/Review" (19 : Nat) "com/example/quaymark/quaymark/Review" "leftOut" "Ljava/util/List;") : Jvm.Cond).before a0 Z = true := hw _ (List.mem_of_getElem? (i := 110) rfl)
theorem wd111 {a0 : Array Value} {Z : State} (hw : HW a0 Z) : ((Jvm.Cond.laysFinal "com/example/quaymark/quaymark/Review" "com/example/quaymark/quaymark/Review" "leftOut" "Ljava/util/List;") : Jvm.Cond).before a0 Z = true := hw _ (List.mem_of_getElem? (i := 111) rfl)
theorem d_prog_23m1_19 : decode prog_23_method_1_code 19 = .ok (.aload_n 0, 1) := by decide +kernel
theorem d_prog_23m1_20 : decode prog_23_method_1_code 20 = .ok (.aload_n 3, 1) := by decide +kernel
theorem d_prog_23m1_21 : decode prog_23_method_1_code 21 = .ok (.putfield 23, 3) := by decide +kernel
theorem wd112 {a0 : Array Value} {Z : State} (hw : HW a0 Z) : ((Jvm.Cond.fieldLink "com/example/quaymark/quaymark/Review" (23 : Nat) "com/example/quaymark/quaymark/Review" "signedOffBy" "Ljava/lang/String;") : Jvm.Cond).before a0 Z = true := hw _ (List.mem_of_getElem? (i := 112) rfl)
theorem wd113 {a0 : Array Value} {Z : State} (hw : HW a0 Z) : ((Jvm.Cond.laysFinal "com/example/quaymark/quaymark/Review" "com/example/quaymark/quaymark/Review" "signedOffBy" "Ljava/lang/String;") : Jvm.Cond).before a0 Z = true := hw _ (List.mem_of_getElem? (i := 113) rfl)
theorem d_prog_23m1_24 : decode prog_23_method_1_code 24 = .ok (.aload_n 0, 1) := by decide +kernel
theorem d_prog_23m1_25 : decode prog_23_method_1_code 25 = .ok (.aload 4, 2) := by decide +kernel
theorem d_prog_23m1_27 : decode prog_23_method_1_code 27 = .ok (.putfield 26, 3) := by decide +kernel
theorem wd114 {a0 : Array Value} {Z : State} (hw : HW a0 Z) : ((Jvm.Cond.fieldLink "com/example/quaymark/quaymark/Review" (26 : Nat) "com/example/quaymark/quaymark/Review" "withdrawn" "Lcom/example/quaymark/quaymark/Review$Withdrawal;") : Jvm.Cond).before a0 Z = true := hw _ (List.mem_of_getElem? (i := 114) rfl)
theorem wd115 {a0 : Array Value} {Z : State} (hw : HW a0 Z) : ((Jvm.Cond.laysFinal "com/example/quaymark/quaymark/Review" "com/example/quaymark/quaymark/Review" "withdrawn" "Lcom/example/quaymark/quaymark/Review$Withdrawal;") : Jvm.Cond).before a0 Z = true := hw _ (List.mem_of_getElem? (i := 115) rfl)
theorem d_prog_23m1_30 : decode prog_23_method_1_code 30 = .ok (.return_, 1) := by decide +kernel
def Q_rvE (Z : State) (zC : Int32) (aE : Addr) (aD : Addr) (aM : Addr) (mO : Addr) (a1 : Addr) (a2 : Addr) (vS : Value) (vB : Value) (eA : Addr) (eK : ClassId) (eL : List Value) (h0 : Heap) (v : Option Value) (h : Heap) (L : List Loc) : Prop := v = none ∧ Fr Z.heap.size L ∧ Keep h0 h [a1] ∧ Exa Z h a1 "com/example/quaymark/quaymark/Review" ∧ Fld Z h a1 "com/example/quaymark/quaymark/Review" "submittedBy" "Ljava/lang/String;" (.ref a2) ∧ Fld Z h a1 "com/example/quaymark/quaymark/Review" "leftOut" "Ljava/util/List;" (.ref aE) ∧ Fld Z h a1 "com/example/quaymark/quaymark/Review" "signedOffBy" "Ljava/lang/String;" vS ∧ Fld Z h a1 "com/example/quaymark/quaymark/Review" "withdrawn" "Lcom/example/quaymark/quaymark/Review$Withdrawal;" vB
theorem pn15 : plainName "com/example/quaymark/quaymark/Review" = true := by first | (simp [plainName, overriddenIn]; done) | decide +kernel
theorem rm_rvE (l : Launch) (Z : State) (a0 : Array Value) (hw : HW a0 Z) (zC : Int32) (SC : tSC Z zC) (PC : ¬ zC = (0 : Int32)) (aE : Addr) (SE : tSE Z aE) (aD : Addr) (SD : tSD Z aD) (aM : Addr) (SM : tSM Z aM) (mO : Addr) (MO : tMO Z mO) (a1 : Addr) (a2 : Addr) (vS : Value) (vB : Value) (eA : Addr) (eK : ClassId) (eL : List Value) (h0 : Heap) (O0 : Old Z Z.heap.size h0) (P1r : Exa Z h0 a1 "com/example/quaymark/quaymark/Review") (P2r : Fld Z h0 a1 "com/example/quaymark/quaymark/Review" "submittedBy" "Ljava/lang/String;" .null) (P3r : Fld Z h0 a1 "com/example/quaymark/quaymark/Review" "leftOut" "Ljava/util/List;" .null) (P4r : Fld Z h0 a1 "com/example/quaymark/quaymark/Review" "signedOffBy" "Ljava/lang/String;" .null) (P5r : Fld Z h0 a1 "com/example/quaymark/quaymark/Review" "withdrawn" "Lcom/example/quaymark/quaymark/Review$Withdrawal;" .null) (P6r : Z.heap.size ≤ a1) (P7r : vS.isRef = true) (P8r : vB.isRef = true) (PE1 : Exa Z h0 aE "java/util/ImmutableCollections$ListN") (PE2 : Fld Z h0 aE "java/util/ImmutableCollections$ListN" "elements" "[Ljava/lang/Object;" (.ref eA)) (PE3 : Arv Z h0 eA eK (.object "java/lang/Object") (0 : Int32) eL .null) (PE4 : Fld Z h0 aE "java/util/ImmutableCollections$ListN" "allowNulls" "Z" (.int (0 : Int32))) :
    Con l Z (⟨"com/example/quaymark/quaymark/Review", "<init>", "(Ljava/lang/String;Ljava/util/List;Ljava/lang/String;Lcom/example/quaymark/quaymark/Review$Withdrawal;)V"⟩ : MethodName) prog_23_method_1_code 5 none ({ frames := 2, cells := 0, slots := 0, locals := 25 } : Room) #[(.ref a1), (.ref a2), (.ref aE), vS, vB] h0 (Q_rvE Z zC aE aD aM mO a1 a2 vS vB eA eK eL h0) := by
  refine Con.intro (plainFor_of_name pn15) ?_
  intro p e s m below meth c T0 X0 hx hby hml hown0 hnm hret hlk hZ0 e0
  have N0 := Fr.nil Z.heap.size
  refine castGo (g' := mkF m 0 #[.val (.ref a1), .val (.ref a2), .val (.ref aE), .val vS, .val vB] []) (by rcases ref_cases P7r with q0 | ⟨_, q0⟩ <;> rw [q0] <;> rcases ref_cases P8r with q1 | ⟨_, q1⟩ <;> rw [q1] <;> rfl) ?_
  show Go _ _ _ _ (T0.setTop (mkF m 0 #[.val (.ref a1), .val (.ref a2), .val (.ref aE), .val vS, .val vB] []))
  refine aL X0 hx (hb hby d_prog_23m1_0) (q := 1) rfl rfl rfl ?_
  refine g_sp X0 hx hZ0 hown0 (wd78 hw) (wd37 hw) (wd40 hw) rfl (by decide) e0 (Con.back (W := 0) (rm_recinit l Z a0 hw zC SC PC aE SE aD SD aM SM mO MO a1 h0 O0 ) hZ0 (wd40 hw) (wd39 hw) (by decide) (by decide)) (by rw [hml]; rfl) (lenOf pd0 rfl) rfl (Nat.le_of_eq rfl) (hb hby d_prog_23m1_1) (q := 4) rfl (by decide) (by decide) ?_
  intro v272 T272 L272 X272 Q272
  obtain ⟨rfl, Nq272, e272⟩ := Q272
  have N272 := Fr.app N0 Nq272
  show Go _ _ _ _ (T272.setTop (mkF m 4 #[.val (.ref a1), .val (.ref a2), .val (.ref aE), .val vS, .val vB] []))
  refine aL X272 hx (hb hby d_prog_23m1_4) (q := 5) rfl rfl rfl ?_
  refine g_st X272 hx hZ0 hown0 (wd79 hw) (wd80 hw) (wd81 hw) (wd82 hw) (by decide) e272 (Con.back (W := 0) (rm_coE l Z a0 hw zC SC PC aE SE aD SD aM SM mO MO eA eK eL h0 O0 PE1 PE2 PE3 PE4) hZ0 (wd82 hw) (wd81 hw) (by decide) (by decide)) (by rw [hml]; rfl) (lenOf pd11 rfl) rfl (Nat.le_of_eq rfl) (hb hby d_prog_23m1_5) (q := 8) rfl (by decide) (by decide) ?_
  intro v273 T273 L273 X273 Q273
  obtain ⟨rfl, Nq273, e273⟩ := Q273
  have N273 := Fr.app N272 Nq273
  show Go _ _ _ _ (T273.setTop (mkF m 8 #[.val (.ref a1), .val (.ref a2), .val (.ref aE), .val vS, .val vB] [(.ref aE)]))
  refine sA X273 hx (hb hby d_prog_23m1_8) (q := 9) rfl rfl (Ls' := #[.val (.ref a1), .val (.ref a2), .val (.ref aE), .val vS, .val vB]) rfl ?_
  refine aL X273 hx (hb hby d_prog_23m1_9) (q := 10) rfl rfl rfl ?_
  refine aL X273 hx (hb hby d_prog_23m1_10) (q := 11) rfl rfl rfl ?_
  refine g_putF X273 hx hZ0 hown0 (host := "") (Or.inl (wd108 hw)) Via.refl P2r P1r (Or.inr ⟨(wd109 hw), rfl, hnm⟩) (wd73 hw) (ty := (.object "java/lang/String")) (by decide) rfl rfl e273 (hb hby d_prog_23m1_11) (q := 14) rfl ?_
  intro T274 h274 X274 e274 W274
  have N274 := Fr.snoc X274 N273 P6r
  have Fw274 : Fld Z h274 a1 "com/example/quaymark/quaymark/Review" "submittedBy" "Ljava/lang/String;" (.ref a2) := P2r.same W274
  refine aL X274 hx (hb hby d_prog_23m1_14) (q := 15) rfl rfl rfl ?_
  refine aL X274 hx (hb hby d_prog_23m1_15) (q := 16) rfl rfl rfl ?_
  have f275 : Fld Z h274 a1 "com/example/quaymark/quaymark/Review" "leftOut" "Ljava/util/List;" .null := P3r.other W274 (Or.inr (slot_ne (Or.inr (wd111 hw)) (Or.inr (wd109 hw)) (by decide) (t := (.object "java/util/List")) (t' := (.object "java/lang/String")) (by decide) (by decide)))
  have f276 : Exa Z h274 a1 "com/example/quaymark/quaymark/Review" := P1r.wr W274
  refine g_putF X274 hx hZ0 hown0 (host := "") (Or.inl (wd110 hw)) Via.refl f275 f276 (Or.inr ⟨(wd111 hw), rfl, hnm⟩) (wd73 hw) (ty := (.object "java/util/List")) (by decide) rfl rfl e274 (hb hby d_prog_23m1_16) (q := 19) rfl ?_
  intro T277 h277 X277 e277 W277
  have N277 := Fr.snoc X277 N274 P6r
  have Fw277 : Fld Z h277 a1 "com/example/quaymark/quaymark/Review" "leftOut" "Ljava/util/List;" (.ref aE) := f275.same W277
  refine aL X277 hx (hb hby d_prog_23m1_19) (q := 20) rfl rfl rfl ?_
  refine aL X277 hx (hb hby d_prog_23m1_20) (q := 21) rfl rfl P7r ?_
  have f278 : Fld Z h274 a1 "com/example/quaymark/quaymark/Review" "signedOffBy" "Ljava/lang/String;" .null := P4r.other W274 (Or.inr (slot_ne (Or.inr (wd113 hw)) (Or.inr (wd109 hw)) (by decide) (t := (.object "java/lang/String")) (t' := (.object "java/lang/String")) (by decide) (by decide)))
  have f279 : Fld Z h277 a1 "com/example/quaymark/quaymark/Review" "signedOffBy" "Ljava/lang/String;" .null := f278.other W277 (Or.inr (slot_ne (Or.inr (wd113 hw)) (Or.inr (wd111 hw)) (by decide) (t := (.object "java/lang/String")) (t' := (.object "java/util/List")) (by decide) (by decide)))
  have f280 : Exa Z h277 a1 "com/example/quaymark/quaymark/Review" := f276.wr W277
  refine g_putF X277 hx hZ0 hown0 (host := "") (Or.inl (wd112 hw)) Via.refl f279 f280 (Or.inr ⟨(wd113 hw), rfl, hnm⟩) (wd73 hw) (ty := (.object "java/lang/String")) (by decide) (own_nref P7r) (own_fref P7r) e277 (hb hby d_prog_23m1_21) (q := 24) rfl ?_
  intro T281 h281 X281 e281 W281
  have N281 := Fr.snoc X281 N277 P6r
  have Fw281 : Fld Z h281 a1 "com/example/quaymark/quaymark/Review" "signedOffBy" "Ljava/lang/String;" vS := f279.same W281
  refine aL X281 hx (hb hby d_prog_23m1_24) (q := 25) rfl rfl rfl ?_
  refine aLw X281 hx (hb hby d_prog_23m1_25) (q := 27) rfl rfl P8r ?_
  have f282 : Fld Z h274 a1 "com/example/quaymark/quaymark/Review" "withdrawn" "Lcom/example/quaymark/quaymark/Review$Withdrawal;" .null := P5r.other W274 (Or.inr (slot_ne (Or.inr (wd115 hw)) (Or.inr (wd109 hw)) (by decide) (t := (.object "com/example/quaymark/quaymark/Review$Withdrawal")) (t' := (.object "java/lang/String")) (by decide) (by decide)))
  have f283 : Fld Z h277 a1 "com/example/quaymark/quaymark/Review" "withdrawn" "Lcom/example/quaymark/quaymark/Review$Withdrawal;" .null := f282.other W277 (Or.inr (slot_ne (Or.inr (wd115 hw)) (Or.inr (wd111 hw)) (by decide) (t := (.object "com/example/quaymark/quaymark/Review$Withdrawal")) (t' := (.object "java/util/List")) (by decide) (by decide)))
  have f284 : Fld Z h281 a1 "com/example/quaymark/quaymark/Review" "withdrawn" "Lcom/example/quaymark/quaymark/Review$Withdrawal;" .null := f283.other W281 (Or.inr (slot_ne (Or.inr (wd115 hw)) (Or.inr (wd113 hw)) (by decide) (t := (.object "com/example/quaymark/quaymark/Review$Withdrawal")) (t' := (.object "java/lang/String")) (by decide) (by decide)))
  have f285 : Exa Z h281 a1 "com/example/quaymark/quaymark/Review" := f280.wr W281
  refine g_putF X281 hx hZ0 hown0 (host := "") (Or.inl (wd114 hw)) Via.refl f284 f285 (Or.inr ⟨(wd115 hw), rfl, hnm⟩) (wd73 hw) (ty := (.object "com/example/quaymark/quaymark/Review$Withdrawal")) (by decide) (own_nref P8r) (own_fref P8r) e281 (hb hby d_prog_23m1_27) (q := 30) rfl ?_
  intro T286 h286 X286 e286 W286
  have N286 := Fr.snoc X286 N281 P6r
  have Fw286 : Fld Z h286 a1 "com/example/quaymark/quaymark/Review" "withdrawn" "Lcom/example/quaymark/quaymark/Review$Withdrawal;" vB := f284.same W286
  have K287 : Keep h0 h274 [a1] := (Keep.refl h0 [a1]).wr W274 (Or.inl (by simp))
  have K288 : Keep h0 h277 [a1] := K287.wr W277 (Or.inl (by simp))
  have K289 : Keep h0 h281 [a1] := K288.wr W281 (Or.inl (by simp))
  have K290 : Keep h0 h286 [a1] := K289.wr W286 (Or.inl (by simp))
  have f291 : Exa Z h286 a1 "com/example/quaymark/quaymark/Review" := f285.wr W286
  have f292 : Fld Z h277 a1 "com/example/quaymark/quaymark/Review" "submittedBy" "Ljava/lang/String;" (.ref a2) := Fw274.other W277 (Or.inr (slot_ne (Or.inr (wd109 hw)) (Or.inr (wd111 hw)) (by decide) (t := (.object "java/lang/String")) (t' := (.object "java/util/List")) (by decide) (by decide)))
  have f293 : Fld Z h281 a1 "com/example/quaymark/quaymark/Review" "submittedBy" "Ljava/lang/String;" (.ref a2) := f292.other W281 (Or.inr (slot_ne (Or.inr (wd109 hw)) (Or.inr (wd113 hw)) (by decide) (t := (.object "java/lang/String")) (t' := (.object "java/lang/String")) (by decide) (by decide)))
  have f294 : Fld Z h286 a1 "com/example/quaymark/quaymark/Review" "submittedBy" "Ljava/lang/String;" (.ref a2) := f293.other W286 (Or.inr (slot_ne (Or.inr (wd109 hw)) (Or.inr (wd115 hw)) (by decide) (t := (.object "java/lang/String")) (t' := (.object "com/example/quaymark/quaymark/Review$Withdrawal")) (by decide) (by decide)))
  have f295 : Fld Z h281 a1 "com/example/quaymark/quaymark/Review" "leftOut" "Ljava/util/List;" (.ref aE) := Fw277.other W281 (Or.inr (slot_ne (Or.inr (wd111 hw)) (Or.inr (wd113 hw)) (by decide) (t := (.object "java/util/List")) (t' := (.object "java/lang/String")) (by decide) (by decide)))
  have f296 : Fld Z h286 a1 "com/example/quaymark/quaymark/Review" "leftOut" "Ljava/util/List;" (.ref aE) := f295.other W286 (Or.inr (slot_ne (Or.inr (wd111 hw)) (Or.inr (wd115 hw)) (by decide) (t := (.object "java/util/List")) (t' := (.object "com/example/quaymark/quaymark/Review$Withdrawal")) (by decide) (by decide)))
  have f297 : Fld Z h286 a1 "com/example/quaymark/quaymark/Review" "signedOffBy" "Ljava/lang/String;" vS := Fw281.other W286 (Or.inr (slot_ne (Or.inr (wd113 hw)) (Or.inr (wd115 hw)) (by decide) (t := (.object "java/lang/String")) (t' := (.object "com/example/quaymark/quaymark/Review$Withdrawal")) (by decide) (by decide)))
  refine endP X286 hlk (fun _ => rfl) (lastV X286 hx hret (hb hby d_prog_23m1_30)) ?_ (by decide) (by decide)
  rw [e286]
  exact ⟨rfl, N286, K290, f291, f294, f296, f297, Fw286⟩
def Q_rvL (Z : State) (zC : Int32) (aE : Addr) (aD : Addr) (aM : Addr) (mO : Addr) (a1 : Addr) (a2 : Addr) (vS : Value) (vB : Value) (a3 : Addr) (h0 : Heap) (v : Option Value) (h : Heap) (L : List Loc) : Prop := v = none ∧ Fr Z.heap.size L ∧ Keep h0 h [a1] ∧ Exa Z h a1 "com/example/quaymark/quaymark/Review" ∧ Fld Z h a1 "com/example/quaymark/quaymark/Review" "submittedBy" "Ljava/lang/String;" (.ref a2) ∧ Fld Z h a1 "com/example/quaymark/quaymark/Review" "leftOut" "Ljava/util/List;" (.ref a3) ∧ Fld Z h a1 "com/example/quaymark/quaymark/Review" "signedOffBy" "Ljava/lang/String;" vS ∧ Fld Z h a1 "com/example/quaymark/quaymark/Review" "withdrawn" "Lcom/example/quaymark/quaymark/Review$Withdrawal;" vB
theorem rm_rvL (l : Launch) (Z : State) (a0 : Array Value) (hw : HW a0 Z) (zC : Int32) (SC : tSC Z zC) (PC : ¬ zC = (0 : Int32)) (aE : Addr) (SE : tSE Z aE) (aD : Addr) (SD : tSD Z aD) (aM : Addr) (SM : tSM Z aM) (mO : Addr) (MO : tMO Z mO) (a1 : Addr) (a2 : Addr) (vS : Value) (vB : Value) (a3 : Addr) (h0 : Heap) (O0 : Old Z Z.heap.size h0) (P1r : Exa Z h0 a1 "com/example/quaymark/quaymark/Review") (P2r : Fld Z h0 a1 "com/example/quaymark/quaymark/Review" "submittedBy" "Ljava/lang/String;" .null) (P3r : Fld Z h0 a1 "com/example/quaymark/quaymark/Review" "leftOut" "Ljava/util/List;" .null) (P4r : Fld Z h0 a1 "com/example/quaymark/quaymark/Review" "signedOffBy" "Ljava/lang/String;" .null) (P5r : Fld Z h0 a1 "com/example/quaymark/quaymark/Review" "withdrawn" "Lcom/example/quaymark/quaymark/Review$Withdrawal;" .null) (P6r : Z.heap.size ≤ a1) (P7r : vS.isRef = true) (P8r : vB.isRef = true) (P9r : Exa Z h0 a3 "java/util/ImmutableCollections$List12") :
    Con l Z (⟨"com/example/quaymark/quaymark/Review", "<init>", "(Ljava/lang/String;Ljava/util/List;Ljava/lang/String;Lcom/example/quaymark/quaymark/Review$Withdrawal;)V"⟩ : MethodName) prog_23_method_1_code 5 none ({ frames := 2, cells := 0, slots := 0, locals := 25 } : Room) #[(.ref a1), (.ref a2), (.ref a3), vS, vB] h0 (Q_rvL Z zC aE aD aM mO a1 a2 vS vB a3 h0) := by
  refine Con.intro (plainFor_of_name pn15) ?_
  intro p e s m below meth c T0 X0 hx hby hml hown0 hnm hret hlk hZ0 e0
  have N0 := Fr.nil Z.heap.size
  refine castGo (g' := mkF m 0 #[.val (.ref a1), .val (.ref a2), .val (.ref a3), .val vS, .val vB] []) (by rcases ref_cases P7r with q0 | ⟨_, q0⟩ <;> rw [q0] <;> rcases ref_cases P8r with q1 | ⟨_, q1⟩ <;> rw [q1] <;> rfl) ?_
  show Go _ _ _ _ (T0.setTop (mkF m 0 #[.val (.ref a1), .val (.ref a2), .val (.ref a3), .val vS, .val vB] []))
  refine aL X0 hx (hb hby d_prog_23m1_0) (q := 1) rfl rfl rfl ?_
  refine g_sp X0 hx hZ0 hown0 (wd78 hw) (wd37 hw) (wd40 hw) rfl (by decide) e0 (Con.back (W := 0) (rm_recinit l Z a0 hw zC SC PC aE SE aD SD aM SM mO MO a1 h0 O0 ) hZ0 (wd40 hw) (wd39 hw) (by decide) (by decide)) (by rw [hml]; rfl) (lenOf pd0 rfl) rfl (Nat.le_of_eq rfl) (hb hby d_prog_23m1_1) (q := 4) rfl (by decide) (by decide) ?_
  intro v298 T298 L298 X298 Q298
  obtain ⟨rfl, Nq298, e298⟩ := Q298
  have N298 := Fr.app N0 Nq298
  show Go _ _ _ _ (T298.setTop (mkF m 4 #[.val (.ref a1), .val (.ref a2), .val (.ref a3), .val vS, .val vB] []))
  refine aL X298 hx (hb hby d_prog_23m1_4) (q := 5) rfl rfl rfl ?_
  refine g_st X298 hx hZ0 hown0 (wd79 hw) (wd80 hw) (wd81 hw) (wd82 hw) (by decide) e298 (Con.back (W := 0) (rm_coL l Z a0 hw zC SC PC aE SE aD SD aM SM mO MO a3 h0 O0 P9r) hZ0 (wd82 hw) (wd81 hw) (by decide) (by decide)) (by rw [hml]; rfl) (lenOf pd11 rfl) rfl (Nat.le_of_eq rfl) (hb hby d_prog_23m1_5) (q := 8) rfl (by decide) (by decide) ?_
  intro v299 T299 L299 X299 Q299
  obtain ⟨rfl, Nq299, e299⟩ := Q299
  have N299 := Fr.app N298 Nq299
  show Go _ _ _ _ (T299.setTop (mkF m 8 #[.val (.ref a1), .val (.ref a2), .val (.ref a3), .val vS, .val vB] [(.ref a3)]))
  refine sA X299 hx (hb hby d_prog_23m1_8) (q := 9) rfl rfl (Ls' := #[.val (.ref a1), .val (.ref a2), .val (.ref a3), .val vS, .val vB]) rfl ?_
  refine aL X299 hx (hb hby d_prog_23m1_9) (q := 10) rfl rfl rfl ?_
  refine aL X299 hx (hb hby d_prog_23m1_10) (q := 11) rfl rfl rfl ?_
  refine g_putF X299 hx hZ0 hown0 (host := "") (Or.inl (wd108 hw)) Via.refl P2r P1r (Or.inr ⟨(wd109 hw), rfl, hnm⟩) (wd73 hw) (ty := (.object "java/lang/String")) (by decide) rfl rfl e299 (hb hby d_prog_23m1_11) (q := 14) rfl ?_
  intro T300 h300 X300 e300 W300
  have N300 := Fr.snoc X300 N299 P6r
  have Fw300 : Fld Z h300 a1 "com/example/quaymark/quaymark/Review" "submittedBy" "Ljava/lang/String;" (.ref a2) := P2r.same W300
  refine aL X300 hx (hb hby d_prog_23m1_14) (q := 15) rfl rfl rfl ?_
  refine aL X300 hx (hb hby d_prog_23m1_15) (q := 16) rfl rfl rfl ?_
  have f301 : Fld Z h300 a1 "com/example/quaymark/quaymark/Review" "leftOut" "Ljava/util/List;" .null := P3r.other W300 (Or.inr (slot_ne (Or.inr (wd111 hw)) (Or.inr (wd109 hw)) (by decide) (t := (.object "java/util/List")) (t' := (.object "java/lang/String")) (by decide) (by decide)))
  have f302 : Exa Z h300 a1 "com/example/quaymark/quaymark/Review" := P1r.wr W300
  refine g_putF X300 hx hZ0 hown0 (host := "") (Or.inl (wd110 hw)) Via.refl f301 f302 (Or.inr ⟨(wd111 hw), rfl, hnm⟩) (wd73 hw) (ty := (.object "java/util/List")) (by decide) rfl rfl e300 (hb hby d_prog_23m1_16) (q := 19) rfl ?_
  intro T303 h303 X303 e303 W303
  have N303 := Fr.snoc X303 N300 P6r
  have Fw303 : Fld Z h303 a1 "com/example/quaymark/quaymark/Review" "leftOut" "Ljava/util/List;" (.ref a3) := f301.same W303
  refine aL X303 hx (hb hby d_prog_23m1_19) (q := 20) rfl rfl rfl ?_
  refine aL X303 hx (hb hby d_prog_23m1_20) (q := 21) rfl rfl P7r ?_
  have f304 : Fld Z h300 a1 "com/example/quaymark/quaymark/Review" "signedOffBy" "Ljava/lang/String;" .null := P4r.other W300 (Or.inr (slot_ne (Or.inr (wd113 hw)) (Or.inr (wd109 hw)) (by decide) (t := (.object "java/lang/String")) (t' := (.object "java/lang/String")) (by decide) (by decide)))
  have f305 : Fld Z h303 a1 "com/example/quaymark/quaymark/Review" "signedOffBy" "Ljava/lang/String;" .null := f304.other W303 (Or.inr (slot_ne (Or.inr (wd113 hw)) (Or.inr (wd111 hw)) (by decide) (t := (.object "java/lang/String")) (t' := (.object "java/util/List")) (by decide) (by decide)))
  have f306 : Exa Z h303 a1 "com/example/quaymark/quaymark/Review" := f302.wr W303
  refine g_putF X303 hx hZ0 hown0 (host := "") (Or.inl (wd112 hw)) Via.refl f305 f306 (Or.inr ⟨(wd113 hw), rfl, hnm⟩) (wd73 hw) (ty := (.object "java/lang/String")) (by decide) (own_nref P7r) (own_fref P7r) e303 (hb hby d_prog_23m1_21) (q := 24) rfl ?_
  intro T307 h307 X307 e307 W307
  have N307 := Fr.snoc X307 N303 P6r
  have Fw307 : Fld Z h307 a1 "com/example/quaymark/quaymark/Review" "signedOffBy" "Ljava/lang/String;" vS := f305.same W307
  refine aL X307 hx (hb hby d_prog_23m1_24) (q := 25) rfl rfl rfl ?_
  refine aLw X307 hx (hb hby d_prog_23m1_25) (q := 27) rfl rfl P8r ?_
  have f308 : Fld Z h300 a1 "com/example/quaymark/quaymark/Review" "withdrawn" "Lcom/example/quaymark/quaymark/Review$Withdrawal;" .null := P5r.other W300 (Or.inr (slot_ne (Or.inr (wd115 hw)) (Or.inr (wd109 hw)) (by decide) (t := (.object "com/example/quaymark/quaymark/Review$Withdrawal")) (t' := (.object "java/lang/String")) (by decide) (by decide)))
  have f309 : Fld Z h303 a1 "com/example/quaymark/quaymark/Review" "withdrawn" "Lcom/example/quaymark/quaymark/Review$Withdrawal;" .null := f308.other W303 (Or.inr (slot_ne (Or.inr (wd115 hw)) (Or.inr (wd111 hw)) (by decide) (t := (.object "com/example/quaymark/quaymark/Review$Withdrawal")) (t' := (.object "java/util/List")) (by decide) (by decide)))
  have f310 : Fld Z h307 a1 "com/example/quaymark/quaymark/Review" "withdrawn" "Lcom/example/quaymark/quaymark/Review$Withdrawal;" .null := f309.other W307 (Or.inr (slot_ne (Or.inr (wd115 hw)) (Or.inr (wd113 hw)) (by decide) (t := (.object "com/example/quaymark/quaymark/Review$Withdrawal")) (t' := (.object "java/lang/String")) (by decide) (by decide)))
  have f311 : Exa Z h307 a1 "com/example/quaymark/quaymark/Review" := f306.wr W307
  refine g_putF X307 hx hZ0 hown0 (host := "") (Or.inl (wd114 hw)) Via.refl f310 f311 (Or.inr ⟨(wd115 hw), rfl, hnm⟩) (wd73 hw) (ty := (.object "com/example/quaymark/quaymark/Review$Withdrawal")) (by decide) (own_nref P8r) (own_fref P8r) e307 (hb hby d_prog_23m1_27) (q := 30) rfl ?_
  intro T312 h312 X312 e312 W312
  have N312 := Fr.snoc X312 N307 P6r
  have Fw312 : Fld Z h312 a1 "com/example/quaymark/quaymark/Review" "withdrawn" "Lcom/example/quaymark/quaymark/Review$Withdrawal;" vB := f310.same W312
  have K313 : Keep h0 h300 [a1] := (Keep.refl h0 [a1]).wr W300 (Or.inl (by simp))
  have K314 : Keep h0 h303 [a1] := K313.wr W303 (Or.inl (by simp))
  have K315 : Keep h0 h307 [a1] := K314.wr W307 (Or.inl (by simp))
  have K316 : Keep h0 h312 [a1] := K315.wr W312 (Or.inl (by simp))
  have f317 : Exa Z h312 a1 "com/example/quaymark/quaymark/Review" := f311.wr W312
  have f318 : Fld Z h303 a1 "com/example/quaymark/quaymark/Review" "submittedBy" "Ljava/lang/String;" (.ref a2) := Fw300.other W303 (Or.inr (slot_ne (Or.inr (wd109 hw)) (Or.inr (wd111 hw)) (by decide) (t := (.object "java/lang/String")) (t' := (.object "java/util/List")) (by decide) (by decide)))
  have f319 : Fld Z h307 a1 "com/example/quaymark/quaymark/Review" "submittedBy" "Ljava/lang/String;" (.ref a2) := f318.other W307 (Or.inr (slot_ne (Or.inr (wd109 hw)) (Or.inr (wd113 hw)) (by decide) (t := (.object "java/lang/String")) (t' := (.object "java/lang/String")) (by decide) (by decide)))
  have f320 : Fld Z h312 a1 "com/example/quaymark/quaymark/Review" "submittedBy" "Ljava/lang/String;" (.ref a2) := f319.other W312 (Or.inr (slot_ne (Or.inr (wd109 hw)) (Or.inr (wd115 hw)) (by decide) (t := (.object "java/lang/String")) (t' := (.object "com/example/quaymark/quaymark/Review$Withdrawal")) (by decide) (by decide)))
  have f321 : Fld Z h307 a1 "com/example/quaymark/quaymark/Review" "leftOut" "Ljava/util/List;" (.ref a3) := Fw303.other W307 (Or.inr (slot_ne (Or.inr (wd111 hw)) (Or.inr (wd113 hw)) (by decide) (t := (.object "java/util/List")) (t' := (.object "java/lang/String")) (by decide) (by decide)))
  have f322 : Fld Z h312 a1 "com/example/quaymark/quaymark/Review" "leftOut" "Ljava/util/List;" (.ref a3) := f321.other W312 (Or.inr (slot_ne (Or.inr (wd111 hw)) (Or.inr (wd115 hw)) (by decide) (t := (.object "java/util/List")) (t' := (.object "com/example/quaymark/quaymark/Review$Withdrawal")) (by decide) (by decide)))
  have f323 : Fld Z h312 a1 "com/example/quaymark/quaymark/Review" "signedOffBy" "Ljava/lang/String;" vS := Fw307.other W312 (Or.inr (slot_ne (Or.inr (wd113 hw)) (Or.inr (wd115 hw)) (by decide) (t := (.object "java/lang/String")) (t' := (.object "com/example/quaymark/quaymark/Review$Withdrawal")) (by decide) (by decide)))
  refine endP X312 hlk (fun _ => rfl) (lastV X312 hx hret (hb hby d_prog_23m1_30)) ?_ (by decide) (by decide)
  rw [e312]
  exact ⟨rfl, N312, K316, f317, f320, f322, f323, Fw312⟩
def Q_rv0 (Z : State) (zC : Int32) (aE : Addr) (aD : Addr) (aM : Addr) (mO : Addr) (a1 : Addr) (a2 : Addr) (vS : Value) (vB : Value) (a3 : Addr) (h0 : Heap) (v : Option Value) (h : Heap) (L : List Loc) : Prop := v = none ∧ Fr Z.heap.size L ∧ Keep h0 h [a1] ∧ Exa Z h a1 "com/example/quaymark/quaymark/Review" ∧ Fld Z h a1 "com/example/quaymark/quaymark/Review" "submittedBy" "Ljava/lang/String;" (.ref a2) ∧ Fld Z h a1 "com/example/quaymark/quaymark/Review" "leftOut" "Ljava/util/List;" (.ref aE) ∧ Fld Z h a1 "com/example/quaymark/quaymark/Review" "signedOffBy" "Ljava/lang/String;" vS ∧ Fld Z h a1 "com/example/quaymark/quaymark/Review" "withdrawn" "Lcom/example/quaymark/quaymark/Review$Withdrawal;" vB
theorem rm_rv0 (l : Launch) (Z : State) (a0 : Array Value) (hw : HW a0 Z) (zC : Int32) (SC : tSC Z zC) (PC : ¬ zC = (0 : Int32)) (aE : Addr) (SE : tSE Z aE) (aD : Addr) (SD : tSD Z aD) (aM : Addr) (SM : tSM Z aM) (mO : Addr) (MO : tMO Z mO) (a1 : Addr) (a2 : Addr) (vS : Value) (vB : Value) (a3 : Addr) (h0 : Heap) (O0 : Old Z Z.heap.size h0) (P1r : Exa Z h0 a1 "com/example/quaymark/quaymark/Review") (P2r : Fld Z h0 a1 "com/example/quaymark/quaymark/Review" "submittedBy" "Ljava/lang/String;" .null) (P3r : Fld Z h0 a1 "com/example/quaymark/quaymark/Review" "leftOut" "Ljava/util/List;" .null) (P4r : Fld Z h0 a1 "com/example/quaymark/quaymark/Review" "signedOffBy" "Ljava/lang/String;" .null) (P5r : Fld Z h0 a1 "com/example/quaymark/quaymark/Review" "withdrawn" "Lcom/example/quaymark/quaymark/Review$Withdrawal;" .null) (P6r : Z.heap.size ≤ a1) (P7r : vS.isRef = true) (P8r : vB.isRef = true) (P3 : Exa Z h0 a3 "java/util/ArrayList") (P4 : Fld Z h0 a3 "java/util/ArrayList" "size" "I" (.int (0 : Int32))) :
    Con l Z (⟨"com/example/quaymark/quaymark/Review", "<init>", "(Ljava/lang/String;Ljava/util/List;Ljava/lang/String;Lcom/example/quaymark/quaymark/Review$Withdrawal;)V"⟩ : MethodName) prog_23_method_1_code 5 none ({ frames := 3, cells := 0, slots := 0, locals := 37 } : Room) #[(.ref a1), (.ref a2), (.ref a3), vS, vB] h0 (Q_rv0 Z zC aE aD aM mO a1 a2 vS vB a3 h0) := by
  refine Con.intro (plainFor_of_name pn15) ?_
  intro p e s m below meth c T0 X0 hx hby hml hown0 hnm hret hlk hZ0 e0
  have N0 := Fr.nil Z.heap.size
  refine castGo (g' := mkF m 0 #[.val (.ref a1), .val (.ref a2), .val (.ref a3), .val vS, .val vB] []) (by rcases ref_cases P7r with q0 | ⟨_, q0⟩ <;> rw [q0] <;> rcases ref_cases P8r with q1 | ⟨_, q1⟩ <;> rw [q1] <;> rfl) ?_
  show Go _ _ _ _ (T0.setTop (mkF m 0 #[.val (.ref a1), .val (.ref a2), .val (.ref a3), .val vS, .val vB] []))
  refine aL X0 hx (hb hby d_prog_23m1_0) (q := 1) rfl rfl rfl ?_
  refine g_sp X0 hx hZ0 hown0 (wd78 hw) (wd37 hw) (wd40 hw) rfl (by decide) e0 (Con.back (W := 0) (rm_recinit l Z a0 hw zC SC PC aE SE aD SD aM SM mO MO a1 h0 O0 ) hZ0 (wd40 hw) (wd39 hw) (by decide) (by decide)) (by rw [hml]; rfl) (lenOf pd0 rfl) rfl (Nat.le_of_eq rfl) (hb hby d_prog_23m1_1) (q := 4) rfl (by decide) (by decide) ?_
  intro v324 T324 L324 X324 Q324
  obtain ⟨rfl, Nq324, e324⟩ := Q324
  have N324 := Fr.app N0 Nq324
  show Go _ _ _ _ (T324.setTop (mkF m 4 #[.val (.ref a1), .val (.ref a2), .val (.ref a3), .val vS, .val vB] []))
  refine aL X324 hx (hb hby d_prog_23m1_4) (q := 5) rfl rfl rfl ?_
  refine g_st X324 hx hZ0 hown0 (wd79 hw) (wd80 hw) (wd81 hw) (wd82 hw) (by decide) e324 (Con.back (W := 0) (rm_co0 l Z a0 hw zC SC PC aE SE aD SD aM SM mO MO a3 h0 O0 P3 P4) hZ0 (wd82 hw) (wd81 hw) (by decide) (by decide)) (by rw [hml]; rfl) (lenOf pd11 rfl) rfl (Nat.le_of_eq rfl) (hb hby d_prog_23m1_5) (q := 8) rfl (by decide) (by decide) ?_
  intro v325 T325 L325 X325 Q325
  obtain ⟨rfl, Nq325, e325⟩ := Q325
  have N325 := Fr.app N324 Nq325
  show Go _ _ _ _ (T325.setTop (mkF m 8 #[.val (.ref a1), .val (.ref a2), .val (.ref a3), .val vS, .val vB] [(.ref aE)]))
  refine sA X325 hx (hb hby d_prog_23m1_8) (q := 9) rfl rfl (Ls' := #[.val (.ref a1), .val (.ref a2), .val (.ref aE), .val vS, .val vB]) rfl ?_
  refine aL X325 hx (hb hby d_prog_23m1_9) (q := 10) rfl rfl rfl ?_
  refine aL X325 hx (hb hby d_prog_23m1_10) (q := 11) rfl rfl rfl ?_
  refine g_putF X325 hx hZ0 hown0 (host := "") (Or.inl (wd108 hw)) Via.refl P2r P1r (Or.inr ⟨(wd109 hw), rfl, hnm⟩) (wd73 hw) (ty := (.object "java/lang/String")) (by decide) rfl rfl e325 (hb hby d_prog_23m1_11) (q := 14) rfl ?_
  intro T326 h326 X326 e326 W326
  have N326 := Fr.snoc X326 N325 P6r
  have Fw326 : Fld Z h326 a1 "com/example/quaymark/quaymark/Review" "submittedBy" "Ljava/lang/String;" (.ref a2) := P2r.same W326
  refine aL X326 hx (hb hby d_prog_23m1_14) (q := 15) rfl rfl rfl ?_
  refine aL X326 hx (hb hby d_prog_23m1_15) (q := 16) rfl rfl rfl ?_
  have f327 : Fld Z h326 a1 "com/example/quaymark/quaymark/Review" "leftOut" "Ljava/util/List;" .null := P3r.other W326 (Or.inr (slot_ne (Or.inr (wd111 hw)) (Or.inr (wd109 hw)) (by decide) (t := (.object "java/util/List")) (t' := (.object "java/lang/String")) (by decide) (by decide)))
  have f328 : Exa Z h326 a1 "com/example/quaymark/quaymark/Review" := P1r.wr W326
  refine g_putF X326 hx hZ0 hown0 (host := "") (Or.inl (wd110 hw)) Via.refl f327 f328 (Or.inr ⟨(wd111 hw), rfl, hnm⟩) (wd73 hw) (ty := (.object "java/util/List")) (by decide) rfl rfl e326 (hb hby d_prog_23m1_16) (q := 19) rfl ?_
  intro T329 h329 X329 e329 W329
  have N329 := Fr.snoc X329 N326 P6r
  have Fw329 : Fld Z h329 a1 "com/example/quaymark/quaymark/Review" "leftOut" "Ljava/util/List;" (.ref aE) := f327.same W329
  refine aL X329 hx (hb hby d_prog_23m1_19) (q := 20) rfl rfl rfl ?_
  refine aL X329 hx (hb hby d_prog_23m1_20) (q := 21) rfl rfl P7r ?_
  have f330 : Fld Z h326 a1 "com/example/quaymark/quaymark/Review" "signedOffBy" "Ljava/lang/String;" .null := P4r.other W326 (Or.inr (slot_ne (Or.inr (wd113 hw)) (Or.inr (wd109 hw)) (by decide) (t := (.object "java/lang/String")) (t' := (.object "java/lang/String")) (by decide) (by decide)))
  have f331 : Fld Z h329 a1 "com/example/quaymark/quaymark/Review" "signedOffBy" "Ljava/lang/String;" .null := f330.other W329 (Or.inr (slot_ne (Or.inr (wd113 hw)) (Or.inr (wd111 hw)) (by decide) (t := (.object "java/lang/String")) (t' := (.object "java/util/List")) (by decide) (by decide)))
  have f332 : Exa Z h329 a1 "com/example/quaymark/quaymark/Review" := f328.wr W329
  refine g_putF X329 hx hZ0 hown0 (host := "") (Or.inl (wd112 hw)) Via.refl f331 f332 (Or.inr ⟨(wd113 hw), rfl, hnm⟩) (wd73 hw) (ty := (.object "java/lang/String")) (by decide) (own_nref P7r) (own_fref P7r) e329 (hb hby d_prog_23m1_21) (q := 24) rfl ?_
  intro T333 h333 X333 e333 W333
  have N333 := Fr.snoc X333 N329 P6r
  have Fw333 : Fld Z h333 a1 "com/example/quaymark/quaymark/Review" "signedOffBy" "Ljava/lang/String;" vS := f331.same W333
  refine aL X333 hx (hb hby d_prog_23m1_24) (q := 25) rfl rfl rfl ?_
  refine aLw X333 hx (hb hby d_prog_23m1_25) (q := 27) rfl rfl P8r ?_
  have f334 : Fld Z h326 a1 "com/example/quaymark/quaymark/Review" "withdrawn" "Lcom/example/quaymark/quaymark/Review$Withdrawal;" .null := P5r.other W326 (Or.inr (slot_ne (Or.inr (wd115 hw)) (Or.inr (wd109 hw)) (by decide) (t := (.object "com/example/quaymark/quaymark/Review$Withdrawal")) (t' := (.object "java/lang/String")) (by decide) (by decide)))
  have f335 : Fld Z h329 a1 "com/example/quaymark/quaymark/Review" "withdrawn" "Lcom/example/quaymark/quaymark/Review$Withdrawal;" .null := f334.other W329 (Or.inr (slot_ne (Or.inr (wd115 hw)) (Or.inr (wd111 hw)) (by decide) (t := (.object "com/example/quaymark/quaymark/Review$Withdrawal")) (t' := (.object "java/util/List")) (by decide) (by decide)))
  have f336 : Fld Z h333 a1 "com/example/quaymark/quaymark/Review" "withdrawn" "Lcom/example/quaymark/quaymark/Review$Withdrawal;" .null := f335.other W333 (Or.inr (slot_ne (Or.inr (wd115 hw)) (Or.inr (wd113 hw)) (by decide) (t := (.object "com/example/quaymark/quaymark/Review$Withdrawal")) (t' := (.object "java/lang/String")) (by decide) (by decide)))
  have f337 : Exa Z h333 a1 "com/example/quaymark/quaymark/Review" := f332.wr W333
  refine g_putF X333 hx hZ0 hown0 (host := "") (Or.inl (wd114 hw)) Via.refl f336 f337 (Or.inr ⟨(wd115 hw), rfl, hnm⟩) (wd73 hw) (ty := (.object "com/example/quaymark/quaymark/Review$Withdrawal")) (by decide) (own_nref P8r) (own_fref P8r) e333 (hb hby d_prog_23m1_27) (q := 30) rfl ?_
  intro T338 h338 X338 e338 W338
  have N338 := Fr.snoc X338 N333 P6r
  have Fw338 : Fld Z h338 a1 "com/example/quaymark/quaymark/Review" "withdrawn" "Lcom/example/quaymark/quaymark/Review$Withdrawal;" vB := f336.same W338
  have K339 : Keep h0 h326 [a1] := (Keep.refl h0 [a1]).wr W326 (Or.inl (by simp))
  have K340 : Keep h0 h329 [a1] := K339.wr W329 (Or.inl (by simp))
  have K341 : Keep h0 h333 [a1] := K340.wr W333 (Or.inl (by simp))
  have K342 : Keep h0 h338 [a1] := K341.wr W338 (Or.inl (by simp))
  have f343 : Exa Z h338 a1 "com/example/quaymark/quaymark/Review" := f337.wr W338
  have f344 : Fld Z h329 a1 "com/example/quaymark/quaymark/Review" "submittedBy" "Ljava/lang/String;" (.ref a2) := Fw326.other W329 (Or.inr (slot_ne (Or.inr (wd109 hw)) (Or.inr (wd111 hw)) (by decide) (t := (.object "java/lang/String")) (t' := (.object "java/util/List")) (by decide) (by decide)))
  have f345 : Fld Z h333 a1 "com/example/quaymark/quaymark/Review" "submittedBy" "Ljava/lang/String;" (.ref a2) := f344.other W333 (Or.inr (slot_ne (Or.inr (wd109 hw)) (Or.inr (wd113 hw)) (by decide) (t := (.object "java/lang/String")) (t' := (.object "java/lang/String")) (by decide) (by decide)))
  have f346 : Fld Z h338 a1 "com/example/quaymark/quaymark/Review" "submittedBy" "Ljava/lang/String;" (.ref a2) := f345.other W338 (Or.inr (slot_ne (Or.inr (wd109 hw)) (Or.inr (wd115 hw)) (by decide) (t := (.object "java/lang/String")) (t' := (.object "com/example/quaymark/quaymark/Review$Withdrawal")) (by decide) (by decide)))
  have f347 : Fld Z h333 a1 "com/example/quaymark/quaymark/Review" "leftOut" "Ljava/util/List;" (.ref aE) := Fw329.other W333 (Or.inr (slot_ne (Or.inr (wd111 hw)) (Or.inr (wd113 hw)) (by decide) (t := (.object "java/util/List")) (t' := (.object "java/lang/String")) (by decide) (by decide)))
  have f348 : Fld Z h338 a1 "com/example/quaymark/quaymark/Review" "leftOut" "Ljava/util/List;" (.ref aE) := f347.other W338 (Or.inr (slot_ne (Or.inr (wd111 hw)) (Or.inr (wd115 hw)) (by decide) (t := (.object "java/util/List")) (t' := (.object "com/example/quaymark/quaymark/Review$Withdrawal")) (by decide) (by decide)))
  have f349 : Fld Z h338 a1 "com/example/quaymark/quaymark/Review" "signedOffBy" "Ljava/lang/String;" vS := Fw333.other W338 (Or.inr (slot_ne (Or.inr (wd113 hw)) (Or.inr (wd115 hw)) (by decide) (t := (.object "java/lang/String")) (t' := (.object "com/example/quaymark/quaymark/Review$Withdrawal")) (by decide) (by decide)))
  refine endP X338 hlk (fun _ => rfl) (lastV X338 hx hret (hb hby d_prog_23m1_30)) ?_ (by decide) (by decide)
  rw [e338]
  exact ⟨rfl, N338, K342, f343, f346, f348, f349, Fw338⟩
def Q_rv1 (Z : State) (zC : Int32) (aE : Addr) (aD : Addr) (aM : Addr) (mO : Addr) (a1 : Addr) (a2 : Addr) (vS : Value) (vB : Value) (a3 : Addr) (r : Addr) (kr : ClassId) (x0 : Addr) (h0 : Heap) (v : Option Value) (h : Heap) (L : List Loc) : Prop := ∃ (q : Addr), v = none ∧ Fr Z.heap.size L ∧ Keep h0 h [a1] ∧ Exa Z h a1 "com/example/quaymark/quaymark/Review" ∧ Fld Z h a1 "com/example/quaymark/quaymark/Review" "submittedBy" "Ljava/lang/String;" (.ref a2) ∧ Fld Z h a1 "com/example/quaymark/quaymark/Review" "leftOut" "Ljava/util/List;" (.ref q) ∧ Fld Z h a1 "com/example/quaymark/quaymark/Review" "signedOffBy" "Ljava/lang/String;" vS ∧ Fld Z h a1 "com/example/quaymark/quaymark/Review" "withdrawn" "Lcom/example/quaymark/quaymark/Review$Withdrawal;" vB ∧ h0.size ≤ q ∧ Exa Z h q "java/util/ImmutableCollections$List12" ∧ Fld Z h q "java/util/ImmutableCollections$List12" "e0" "Ljava/lang/Object;" (.ref x0) ∧ Fld Z h q "java/util/ImmutableCollections$List12" "e1" "Ljava/lang/Object;" (.ref aM)
theorem rm_rv1 (l : Launch) (Z : State) (a0 : Array Value) (hw : HW a0 Z) (zC : Int32) (SC : tSC Z zC) (PC : ¬ zC = (0 : Int32)) (aE : Addr) (SE : tSE Z aE) (aD : Addr) (SD : tSD Z aD) (aM : Addr) (SM : tSM Z aM) (mO : Addr) (MO : tMO Z mO) (a1 : Addr) (a2 : Addr) (vS : Value) (vB : Value) (a3 : Addr) (r : Addr) (kr : ClassId) (x0 : Addr) (h0 : Heap) (O0 : Old Z Z.heap.size h0) (P1r : Exa Z h0 a1 "com/example/quaymark/quaymark/Review") (P2r : Fld Z h0 a1 "com/example/quaymark/quaymark/Review" "submittedBy" "Ljava/lang/String;" .null) (P3r : Fld Z h0 a1 "com/example/quaymark/quaymark/Review" "leftOut" "Ljava/util/List;" .null) (P4r : Fld Z h0 a1 "com/example/quaymark/quaymark/Review" "signedOffBy" "Ljava/lang/String;" .null) (P5r : Fld Z h0 a1 "com/example/quaymark/quaymark/Review" "withdrawn" "Lcom/example/quaymark/quaymark/Review$Withdrawal;" .null) (P6r : Z.heap.size ≤ a1) (P7r : vS.isRef = true) (P8r : vB.isRef = true) (P3 : Exa Z h0 a3 "java/util/ArrayList") (P4 : Fld Z h0 a3 "java/util/ArrayList" "size" "I" (.int (1 : Int32))) (P5 : Fld Z h0 a3 "java/util/ArrayList" "elementData" "[Ljava/lang/Object;" (.ref r)) (P1 : Arv Z h0 r kr (.object "java/lang/Object") (10 : Int32) [(.ref x0), .null, .null, .null, .null, .null, .null, .null, .null, .null] .null) (P2 : Exa Z h0 r "[Ljava/lang/Object;") (PX0 : Exa Z h0 x0 "com/example/quaymark/quaymark/Review$LeftOut") :
    Con l Z (⟨"com/example/quaymark/quaymark/Review", "<init>", "(Ljava/lang/String;Ljava/util/List;Ljava/lang/String;Lcom/example/quaymark/quaymark/Review$Withdrawal;)V"⟩ : MethodName) prog_23_method_1_code 5 none ({ frames := 8, cells := 2, slots := 3, locals := 100 } : Room) #[(.ref a1), (.ref a2), (.ref a3), vS, vB] h0 (Q_rv1 Z zC aE aD aM mO a1 a2 vS vB a3 r kr x0 h0) := by
  refine Con.intro (plainFor_of_name pn15) ?_
  intro p e s m below meth c T0 X0 hx hby hml hown0 hnm hret hlk hZ0 e0
  have N0 := Fr.nil Z.heap.size
  refine castGo (g' := mkF m 0 #[.val (.ref a1), .val (.ref a2), .val (.ref a3), .val vS, .val vB] []) (by rcases ref_cases P7r with q0 | ⟨_, q0⟩ <;> rw [q0] <;> rcases ref_cases P8r with q1 | ⟨_, q1⟩ <;> rw [q1] <;> rfl) ?_
  show Go _ _ _ _ (T0.setTop (mkF m 0 #[.val (.ref a1), .val (.ref a2), .val (.ref a3), .val vS, .val vB] []))
  refine aL X0 hx (hb hby d_prog_23m1_0) (q := 1) rfl rfl rfl ?_
  refine g_sp X0 hx hZ0 hown0 (wd78 hw) (wd37 hw) (wd40 hw) rfl (by decide) e0 (Con.back (W := 0) (rm_recinit l Z a0 hw zC SC PC aE SE aD SD aM SM mO MO a1 h0 O0 ) hZ0 (wd40 hw) (wd39 hw) (by decide) (by decide)) (by rw [hml]; rfl) (lenOf pd0 rfl) rfl (Nat.le_of_eq rfl) (hb hby d_prog_23m1_1) (q := 4) rfl (by decide) (by decide) ?_
  intro v350 T350 L350 X350 Q350
  obtain ⟨rfl, Nq350, e350⟩ := Q350
  have N350 := Fr.app N0 Nq350
  show Go _ _ _ _ (T350.setTop (mkF m 4 #[.val (.ref a1), .val (.ref a2), .val (.ref a3), .val vS, .val vB] []))
  refine aL X350 hx (hb hby d_prog_23m1_4) (q := 5) rfl rfl rfl ?_
  refine g_st X350 hx hZ0 hown0 (wd79 hw) (wd80 hw) (wd81 hw) (wd82 hw) (by decide) e350 (Con.back (W := 0) (rm_co1 l Z a0 hw zC SC PC aE SE aD SD aM SM mO MO a3 r kr x0 h0 O0 P3 P4 P5 P1 P2 PX0) hZ0 (wd82 hw) (wd81 hw) (by decide) (by decide)) (by rw [hml]; rfl) (lenOf pd11 rfl) rfl (Nat.le_of_eq rfl) (hb hby d_prog_23m1_5) (q := 8) rfl (by decide) (by decide) ?_
  intro v351 T351 L351 X351 Q351
  obtain ⟨q_351, rfl, Nq351, K351q, q351_0, q351_1, q351_2, q351_3⟩ := Q351
  have N351 := Fr.app N350 Nq351
  show Go _ _ _ _ (T351.setTop (mkF m 8 #[.val (.ref a1), .val (.ref a2), .val (.ref a3), .val vS, .val vB] [(.ref q_351)]))
  refine sA X351 hx (hb hby d_prog_23m1_8) (q := 9) rfl rfl (Ls' := #[.val (.ref a1), .val (.ref a2), .val (.ref q_351), .val vS, .val vB]) rfl ?_
  refine aL X351 hx (hb hby d_prog_23m1_9) (q := 10) rfl rfl rfl ?_
  refine aL X351 hx (hb hby d_prog_23m1_10) (q := 11) rfl rfl rfl ?_
  have f352 : Fld Z T351.heap a1 "com/example/quaymark/quaymark/Review" "submittedBy" "Ljava/lang/String;" .null := P2r.keep K351q nin0
  have f353 : Exa Z T351.heap a1 "com/example/quaymark/quaymark/Review" := P1r.keep K351q
  refine g_putF X351 hx hZ0 hown0 (host := "") (Or.inl (wd108 hw)) Via.refl f352 f353 (Or.inr ⟨(wd109 hw), rfl, hnm⟩) (wd73 hw) (ty := (.object "java/lang/String")) (by decide) rfl rfl rfl (hb hby d_prog_23m1_11) (q := 14) rfl ?_
  intro T354 h354 X354 e354 W354
  have N354 := Fr.snoc X354 N351 P6r
  have Fw354 : Fld Z h354 a1 "com/example/quaymark/quaymark/Review" "submittedBy" "Ljava/lang/String;" (.ref a2) := f352.same W354
  refine aL X354 hx (hb hby d_prog_23m1_14) (q := 15) rfl rfl rfl ?_
  refine aL X354 hx (hb hby d_prog_23m1_15) (q := 16) rfl rfl rfl ?_
  have f355 : Fld Z T351.heap a1 "com/example/quaymark/quaymark/Review" "leftOut" "Ljava/util/List;" .null := P3r.keep K351q nin0
  have f356 : Fld Z h354 a1 "com/example/quaymark/quaymark/Review" "leftOut" "Ljava/util/List;" .null := f355.other W354 (Or.inr (slot_ne (Or.inr (wd111 hw)) (Or.inr (wd109 hw)) (by decide) (t := (.object "java/util/List")) (t' := (.object "java/lang/String")) (by decide) (by decide)))
  have f357 : Exa Z h354 a1 "com/example/quaymark/quaymark/Review" := f353.wr W354
  refine g_putF X354 hx hZ0 hown0 (host := "") (Or.inl (wd110 hw)) Via.refl f356 f357 (Or.inr ⟨(wd111 hw), rfl, hnm⟩) (wd73 hw) (ty := (.object "java/util/List")) (by decide) rfl rfl e354 (hb hby d_prog_23m1_16) (q := 19) rfl ?_
  intro T358 h358 X358 e358 W358
  have N358 := Fr.snoc X358 N354 P6r
  have Fw358 : Fld Z h358 a1 "com/example/quaymark/quaymark/Review" "leftOut" "Ljava/util/List;" (.ref q_351) := f356.same W358
  refine aL X358 hx (hb hby d_prog_23m1_19) (q := 20) rfl rfl rfl ?_
  refine aL X358 hx (hb hby d_prog_23m1_20) (q := 21) rfl rfl P7r ?_
  have f359 : Fld Z T351.heap a1 "com/example/quaymark/quaymark/Review" "signedOffBy" "Ljava/lang/String;" .null := P4r.keep K351q nin0
  have f360 : Fld Z h354 a1 "com/example/quaymark/quaymark/Review" "signedOffBy" "Ljava/lang/String;" .null := f359.other W354 (Or.inr (slot_ne (Or.inr (wd113 hw)) (Or.inr (wd109 hw)) (by decide) (t := (.object "java/lang/String")) (t' := (.object "java/lang/String")) (by decide) (by decide)))
  have f361 : Fld Z h358 a1 "com/example/quaymark/quaymark/Review" "signedOffBy" "Ljava/lang/String;" .null := f360.other W358 (Or.inr (slot_ne (Or.inr (wd113 hw)) (Or.inr (wd111 hw)) (by decide) (t := (.object "java/lang/String")) (t' := (.object "java/util/List")) (by decide) (by decide)))
  have f362 : Exa Z h358 a1 "com/example/quaymark/quaymark/Review" := f357.wr W358
  refine g_putF X358 hx hZ0 hown0 (host := "") (Or.inl (wd112 hw)) Via.refl f361 f362 (Or.inr ⟨(wd113 hw), rfl, hnm⟩) (wd73 hw) (ty := (.object "java/lang/String")) (by decide) (own_nref P7r) (own_fref P7r) e358 (hb hby d_prog_23m1_21) (q := 24) rfl ?_
  intro T363 h363 X363 e363 W363
  have N363 := Fr.snoc X363 N358 P6r
  have Fw363 : Fld Z h363 a1 "com/example/quaymark/quaymark/Review" "signedOffBy" "Ljava/lang/String;" vS := f361.same W363
  refine aL X363 hx (hb hby d_prog_23m1_24) (q := 25) rfl rfl rfl ?_
  refine aLw X363 hx (hb hby d_prog_23m1_25) (q := 27) rfl rfl P8r ?_
  have f364 : Fld Z T351.heap a1 "com/example/quaymark/quaymark/Review" "withdrawn" "Lcom/example/quaymark/quaymark/Review$Withdrawal;" .null := P5r.keep K351q nin0
  have f365 : Fld Z h354 a1 "com/example/quaymark/quaymark/Review" "withdrawn" "Lcom/example/quaymark/quaymark/Review$Withdrawal;" .null := f364.other W354 (Or.inr (slot_ne (Or.inr (wd115 hw)) (Or.inr (wd109 hw)) (by decide) (t := (.object "com/example/quaymark/quaymark/Review$Withdrawal")) (t' := (.object "java/lang/String")) (by decide) (by decide)))
  have f366 : Fld Z h358 a1 "com/example/quaymark/quaymark/Review" "withdrawn" "Lcom/example/quaymark/quaymark/Review$Withdrawal;" .null := f365.other W358 (Or.inr (slot_ne (Or.inr (wd115 hw)) (Or.inr (wd111 hw)) (by decide) (t := (.object "com/example/quaymark/quaymark/Review$Withdrawal")) (t' := (.object "java/util/List")) (by decide) (by decide)))
  have f367 : Fld Z h363 a1 "com/example/quaymark/quaymark/Review" "withdrawn" "Lcom/example/quaymark/quaymark/Review$Withdrawal;" .null := f366.other W363 (Or.inr (slot_ne (Or.inr (wd115 hw)) (Or.inr (wd113 hw)) (by decide) (t := (.object "com/example/quaymark/quaymark/Review$Withdrawal")) (t' := (.object "java/lang/String")) (by decide) (by decide)))
  have f368 : Exa Z h363 a1 "com/example/quaymark/quaymark/Review" := f362.wr W363
  refine g_putF X363 hx hZ0 hown0 (host := "") (Or.inl (wd114 hw)) Via.refl f367 f368 (Or.inr ⟨(wd115 hw), rfl, hnm⟩) (wd73 hw) (ty := (.object "com/example/quaymark/quaymark/Review$Withdrawal")) (by decide) (own_nref P8r) (own_fref P8r) e363 (hb hby d_prog_23m1_27) (q := 30) rfl ?_
  intro T369 h369 X369 e369 W369
  have N369 := Fr.snoc X369 N363 P6r
  have Fw369 : Fld Z h369 a1 "com/example/quaymark/quaymark/Review" "withdrawn" "Lcom/example/quaymark/quaymark/Review$Withdrawal;" vB := f367.same W369
  have K370 : Keep h0 T351.heap [a1] := (Keep.refl h0 [a1]).trans K351q all0
  have K371 : Keep h0 h354 [a1] := K370.wr W354 (Or.inl (by simp))
  have K372 : Keep h0 h358 [a1] := K371.wr W358 (Or.inl (by simp))
  have K373 : Keep h0 h363 [a1] := K372.wr W363 (Or.inl (by simp))
  have K374 : Keep h0 h369 [a1] := K373.wr W369 (Or.inl (by simp))
  have f375 : Exa Z h369 a1 "com/example/quaymark/quaymark/Review" := f368.wr W369
  have f376 : Fld Z h358 a1 "com/example/quaymark/quaymark/Review" "submittedBy" "Ljava/lang/String;" (.ref a2) := Fw354.other W358 (Or.inr (slot_ne (Or.inr (wd109 hw)) (Or.inr (wd111 hw)) (by decide) (t := (.object "java/lang/String")) (t' := (.object "java/util/List")) (by decide) (by decide)))
  have f377 : Fld Z h363 a1 "com/example/quaymark/quaymark/Review" "submittedBy" "Ljava/lang/String;" (.ref a2) := f376.other W363 (Or.inr (slot_ne (Or.inr (wd109 hw)) (Or.inr (wd113 hw)) (by decide) (t := (.object "java/lang/String")) (t' := (.object "java/lang/String")) (by decide) (by decide)))
  have f378 : Fld Z h369 a1 "com/example/quaymark/quaymark/Review" "submittedBy" "Ljava/lang/String;" (.ref a2) := f377.other W369 (Or.inr (slot_ne (Or.inr (wd109 hw)) (Or.inr (wd115 hw)) (by decide) (t := (.object "java/lang/String")) (t' := (.object "com/example/quaymark/quaymark/Review$Withdrawal")) (by decide) (by decide)))
  have f379 : Fld Z h363 a1 "com/example/quaymark/quaymark/Review" "leftOut" "Ljava/util/List;" (.ref q_351) := Fw358.other W363 (Or.inr (slot_ne (Or.inr (wd111 hw)) (Or.inr (wd113 hw)) (by decide) (t := (.object "java/util/List")) (t' := (.object "java/lang/String")) (by decide) (by decide)))
  have f380 : Fld Z h369 a1 "com/example/quaymark/quaymark/Review" "leftOut" "Ljava/util/List;" (.ref q_351) := f379.other W369 (Or.inr (slot_ne (Or.inr (wd111 hw)) (Or.inr (wd115 hw)) (by decide) (t := (.object "java/util/List")) (t' := (.object "com/example/quaymark/quaymark/Review$Withdrawal")) (by decide) (by decide)))
  have f381 : Fld Z h369 a1 "com/example/quaymark/quaymark/Review" "signedOffBy" "Ljava/lang/String;" vS := Fw363.other W369 (Or.inr (slot_ne (Or.inr (wd113 hw)) (Or.inr (wd115 hw)) (by decide) (t := (.object "java/lang/String")) (t' := (.object "com/example/quaymark/quaymark/Review$Withdrawal")) (by decide) (by decide)))
  have gh382 : h0.size ≤ q_351 := Nat.le_trans (Nat.le_refl _) q351_0
  have f383 : Exa Z h354 q_351 "java/util/ImmutableCollections$List12" := q351_1.wr W354
  have f384 : Exa Z h358 q_351 "java/util/ImmutableCollections$List12" := f383.wr W358
  have f385 : Exa Z h363 q_351 "java/util/ImmutableCollections$List12" := f384.wr W363
  have f386 : Exa Z h369 q_351 "java/util/ImmutableCollections$List12" := f385.wr W369
  have ne387 : q_351 ≠ a1 := (Nat.ne_of_gt (Nat.lt_of_lt_of_le (Nat.lt_of_lt_of_le P1r.lt (Nat.le_refl _)) q351_0))
  have f388 : Fld Z h354 q_351 "java/util/ImmutableCollections$List12" "e0" "Ljava/lang/Object;" (.ref x0) := q351_2.other W354 (Or.inl ne387)
  have f389 : Fld Z h358 q_351 "java/util/ImmutableCollections$List12" "e0" "Ljava/lang/Object;" (.ref x0) := f388.other W358 (Or.inl ne387)
  have f390 : Fld Z h363 q_351 "java/util/ImmutableCollections$List12" "e0" "Ljava/lang/Object;" (.ref x0) := f389.other W363 (Or.inl ne387)
  have f391 : Fld Z h369 q_351 "java/util/ImmutableCollections$List12" "e0" "Ljava/lang/Object;" (.ref x0) := f390.other W369 (Or.inl ne387)
  have f392 : Fld Z h354 q_351 "java/util/ImmutableCollections$List12" "e1" "Ljava/lang/Object;" (.ref aM) := q351_3.other W354 (Or.inl ne387)
  have f393 : Fld Z h358 q_351 "java/util/ImmutableCollections$List12" "e1" "Ljava/lang/Object;" (.ref aM) := f392.other W358 (Or.inl ne387)
  have f394 : Fld Z h363 q_351 "java/util/ImmutableCollections$List12" "e1" "Ljava/lang/Object;" (.ref aM) := f393.other W363 (Or.inl ne387)
  have f395 : Fld Z h369 q_351 "java/util/ImmutableCollections$List12" "e1" "Ljava/lang/Object;" (.ref aM) := f394.other W369 (Or.inl ne387)
  refine endP X369 hlk (fun _ => rfl) (lastV X369 hx hret (hb hby d_prog_23m1_30)) ?_ (by decide) (by decide)
  rw [e369]
  exact ⟨q_351, rfl, N369, K374, f375, f378, f380, f381, Fw369, gh382, f386, f391, f395⟩
def Q_rv2 (Z : State) (zC : Int32) (aE : Addr) (aD : Addr) (aM : Addr) (mO : Addr) (a1 : Addr) (a2 : Addr) (vS : Value) (vB : Value) (a3 : Addr) (r : Addr) (kr : ClassId) (x0 : Addr) (x1 : Addr) (h0 : Heap) (v : Option Value) (h : Heap) (L : List Loc) : Prop := ∃ (q : Addr), v = none ∧ Fr Z.heap.size L ∧ Keep h0 h [a1] ∧ Exa Z h a1 "com/example/quaymark/quaymark/Review" ∧ Fld Z h a1 "com/example/quaymark/quaymark/Review" "submittedBy" "Ljava/lang/String;" (.ref a2) ∧ Fld Z h a1 "com/example/quaymark/quaymark/Review" "leftOut" "Ljava/util/List;" (.ref q) ∧ Fld Z h a1 "com/example/quaymark/quaymark/Review" "signedOffBy" "Ljava/lang/String;" vS ∧ Fld Z h a1 "com/example/quaymark/quaymark/Review" "withdrawn" "Lcom/example/quaymark/quaymark/Review$Withdrawal;" vB ∧ h0.size ≤ q ∧ Exa Z h q "java/util/ImmutableCollections$List12" ∧ Fld Z h q "java/util/ImmutableCollections$List12" "e0" "Ljava/lang/Object;" (.ref x0) ∧ Fld Z h q "java/util/ImmutableCollections$List12" "e1" "Ljava/lang/Object;" (.ref x1)
theorem rm_rv2 (l : Launch) (Z : State) (a0 : Array Value) (hw : HW a0 Z) (zC : Int32) (SC : tSC Z zC) (PC : ¬ zC = (0 : Int32)) (aE : Addr) (SE : tSE Z aE) (aD : Addr) (SD : tSD Z aD) (aM : Addr) (SM : tSM Z aM) (mO : Addr) (MO : tMO Z mO) (a1 : Addr) (a2 : Addr) (vS : Value) (vB : Value) (a3 : Addr) (r : Addr) (kr : ClassId) (x0 : Addr) (x1 : Addr) (h0 : Heap) (O0 : Old Z Z.heap.size h0) (P1r : Exa Z h0 a1 "com/example/quaymark/quaymark/Review") (P2r : Fld Z h0 a1 "com/example/quaymark/quaymark/Review" "submittedBy" "Ljava/lang/String;" .null) (P3r : Fld Z h0 a1 "com/example/quaymark/quaymark/Review" "leftOut" "Ljava/util/List;" .null) (P4r : Fld Z h0 a1 "com/example/quaymark/quaymark/Review" "signedOffBy" "Ljava/lang/String;" .null) (P5r : Fld Z h0 a1 "com/example/quaymark/quaymark/Review" "withdrawn" "Lcom/example/quaymark/quaymark/Review$Withdrawal;" .null) (P6r : Z.heap.size ≤ a1) (P7r : vS.isRef = true) (P8r : vB.isRef = true) (P3 : Exa Z h0 a3 "java/util/ArrayList") (P4 : Fld Z h0 a3 "java/util/ArrayList" "size" "I" (.int (2 : Int32))) (P5 : Fld Z h0 a3 "java/util/ArrayList" "elementData" "[Ljava/lang/Object;" (.ref r)) (P1 : Arv Z h0 r kr (.object "java/lang/Object") (10 : Int32) [(.ref x0), (.ref x1), .null, .null, .null, .null, .null, .null, .null, .null] .null) (P2 : Exa Z h0 r "[Ljava/lang/Object;") (PX0 : Exa Z h0 x0 "com/example/quaymark/quaymark/Review$LeftOut") (PX1 : Exa Z h0 x1 "com/example/quaymark/quaymark/Review$LeftOut") :
    Con l Z (⟨"com/example/quaymark/quaymark/Review", "<init>", "(Ljava/lang/String;Ljava/util/List;Ljava/lang/String;Lcom/example/quaymark/quaymark/Review$Withdrawal;)V"⟩ : MethodName) prog_23_method_1_code 5 none ({ frames := 8, cells := 2, slots := 4, locals := 101 } : Room) #[(.ref a1), (.ref a2), (.ref a3), vS, vB] h0 (Q_rv2 Z zC aE aD aM mO a1 a2 vS vB a3 r kr x0 x1 h0) := by
  refine Con.intro (plainFor_of_name pn15) ?_
  intro p e s m below meth c T0 X0 hx hby hml hown0 hnm hret hlk hZ0 e0
  have N0 := Fr.nil Z.heap.size
  refine castGo (g' := mkF m 0 #[.val (.ref a1), .val (.ref a2), .val (.ref a3), .val vS, .val vB] []) (by rcases ref_cases P7r with q0 | ⟨_, q0⟩ <;> rw [q0] <;> rcases ref_cases P8r with q1 | ⟨_, q1⟩ <;> rw [q1] <;> rfl) ?_
  show Go _ _ _ _ (T0.setTop (mkF m 0 #[.val (.ref a1), .val (.ref a2), .val (.ref a3), .val vS, .val vB] []))
  refine aL X0 hx (hb hby d_prog_23m1_0) (q := 1) rfl rfl rfl ?_
  refine g_sp X0 hx hZ0 hown0 (wd78 hw) (wd37 hw) (wd40 hw) rfl (by decide) e0 (Con.back (W := 0) (rm_recinit l Z a0 hw zC SC PC aE SE aD SD aM SM mO MO a1 h0 O0 ) hZ0 (wd40 hw) (wd39 hw) (by decide) (by decide)) (by rw [hml]; rfl) (lenOf pd0 rfl) rfl (Nat.le_of_eq rfl) (hb hby d_prog_23m1_1) (q := 4) rfl (by decide) (by decide) ?_
  intro v396 T396 L396 X396 Q396
  obtain ⟨rfl, Nq396, e396⟩ := Q396
  have N396 := Fr.app N0 Nq396
  show Go _ _ _ _ (T396.setTop (mkF m 4 #[.val (.ref a1), .val (.ref a2), .val (.ref a3), .val vS, .val vB] []))
  refine aL X396 hx (hb hby d_prog_23m1_4) (q := 5) rfl rfl rfl ?_
  refine g_st X396 hx hZ0 hown0 (wd79 hw) (wd80 hw) (wd81 hw) (wd82 hw) (by decide) e396 (Con.back (W := 0) (rm_co2 l Z a0 hw zC SC PC aE SE aD SD aM SM mO MO a3 r kr x0 x1 h0 O0 P3 P4 P5 P1 P2 PX0 PX1) hZ0 (wd82 hw) (wd81 hw) (by decide) (by decide)) (by rw [hml]; rfl) (lenOf pd11 rfl) rfl (Nat.le_of_eq rfl) (hb hby d_prog_23m1_5) (q := 8) rfl (by decide) (by decide) ?_
  intro v397 T397 L397 X397 Q397
  obtain ⟨q_397, rfl, Nq397, K397q, q397_0, q397_1, q397_2, q397_3⟩ := Q397
  have N397 := Fr.app N396 Nq397
  show Go _ _ _ _ (T397.setTop (mkF m 8 #[.val (.ref a1), .val (.ref a2), .val (.ref a3), .val vS, .val vB] [(.ref q_397)]))
  refine sA X397 hx (hb hby d_prog_23m1_8) (q := 9) rfl rfl (Ls' := #[.val (.ref a1), .val (.ref a2), .val (.ref q_397), .val vS, .val vB]) rfl ?_
  refine aL X397 hx (hb hby d_prog_23m1_9) (q := 10) rfl rfl rfl ?_
  refine aL X397 hx (hb hby d_prog_23m1_10) (q := 11) rfl rfl rfl ?_
  have f398 : Fld Z T397.heap a1 "com/example/quaymark/quaymark/Review" "submittedBy" "Ljava/lang/String;" .null := P2r.keep K397q nin0
  have f399 : Exa Z T397.heap a1 "com/example/quaymark/quaymark/Review" := P1r.keep K397q
  refine g_putF X397 hx hZ0 hown0 (host := "") (Or.inl (wd108 hw)) Via.refl f398 f399 (Or.inr ⟨(wd109 hw), rfl, hnm⟩) (wd73 hw) (ty := (.object "java/lang/String")) (by decide) rfl rfl rfl (hb hby d_prog_23m1_11) (q := 14) rfl ?_
  intro T400 h400 X400 e400 W400
  have N400 := Fr.snoc X400 N397 P6r
  have Fw400 : Fld Z h400 a1 "com/example/quaymark/quaymark/Review" "submittedBy" "Ljava/lang/String;" (.ref a2) := f398.same W400
  refine aL X400 hx (hb hby d_prog_23m1_14) (q := 15) rfl rfl rfl ?_
  refine aL X400 hx (hb hby d_prog_23m1_15) (q := 16) rfl rfl rfl ?_
  have f401 : Fld Z T397.heap a1 "com/example/quaymark/quaymark/Review" "leftOut" "Ljava/util/List;" .null := P3r.keep K397q nin0
  have f402 : Fld Z h400 a1 "com/example/quaymark/quaymark/Review" "leftOut" "Ljava/util/List;" .null := f401.other W400 (Or.inr (slot_ne (Or.inr (wd111 hw)) (Or.inr (wd109 hw)) (by decide) (t := (.object "java/util/List")) (t' := (.object "java/lang/String")) (by decide) (by decide)))
  have f403 : Exa Z h400 a1 "com/example/quaymark/quaymark/Review" := f399.wr W400
  refine g_putF X400 hx hZ0 hown0 (host := "") (Or.inl (wd110 hw)) Via.refl f402 f403 (Or.inr ⟨(wd111 hw), rfl, hnm⟩) (wd73 hw) (ty := (.object "java/util/List")) (by decide) rfl rfl e400 (hb hby d_prog_23m1_16) (q := 19) rfl ?_
  intro T404 h404 X404 e404 W404
  have N404 := Fr.snoc X404 N400 P6r
  have Fw404 : Fld Z h404 a1 "com/example/quaymark/quaymark/Review" "leftOut" "Ljava/util/List;" (.ref q_397) := f402.same W404
  refine aL X404 hx (hb hby d_prog_23m1_19) (q := 20) rfl rfl rfl ?_
  refine aL X404 hx (hb hby d_prog_23m1_20) (q := 21) rfl rfl P7r ?_
  have f405 : Fld Z T397.heap a1 "com/example/quaymark/quaymark/Review" "signedOffBy" "Ljava/lang/String;" .null := P4r.keep K397q nin0
  have f406 : Fld Z h400 a1 "com/example/quaymark/quaymark/Review" "signedOffBy" "Ljava/lang/String;" .null := f405.other W400 (Or.inr (slot_ne (Or.inr (wd113 hw)) (Or.inr (wd109 hw)) (by decide) (t := (.object "java/lang/String")) (t' := (.object "java/lang/String")) (by decide) (by decide)))
  have f407 : Fld Z h404 a1 "com/example/quaymark/quaymark/Review" "signedOffBy" "Ljava/lang/String;" .null := f406.other W404 (Or.inr (slot_ne (Or.inr (wd113 hw)) (Or.inr (wd111 hw)) (by decide) (t := (.object "java/lang/String")) (t' := (.object "java/util/List")) (by decide) (by decide)))
  have f408 : Exa Z h404 a1 "com/example/quaymark/quaymark/Review" := f403.wr W404
  refine g_putF X404 hx hZ0 hown0 (host := "") (Or.inl (wd112 hw)) Via.refl f407 f408 (Or.inr ⟨(wd113 hw), rfl, hnm⟩) (wd73 hw) (ty := (.object "java/lang/String")) (by decide) (own_nref P7r) (own_fref P7r) e404 (hb hby d_prog_23m1_21) (q := 24) rfl ?_
  intro T409 h409 X409 e409 W409
  have N409 := Fr.snoc X409 N404 P6r
  have Fw409 : Fld Z h409 a1 "com/example/quaymark/quaymark/Review" "signedOffBy" "Ljava/lang/String;" vS := f407.same W409
  refine aL X409 hx (hb hby d_prog_23m1_24) (q := 25) rfl rfl rfl ?_
  refine aLw X409 hx (hb hby d_prog_23m1_25) (q := 27) rfl rfl P8r ?_
  have f410 : Fld Z T397.heap a1 "com/example/quaymark/quaymark/Review" "withdrawn" "Lcom/example/quaymark/quaymark/Review$Withdrawal;" .null := P5r.keep K397q nin0
  have f411 : Fld Z h400 a1 "com/example/quaymark/quaymark/Review" "withdrawn" "Lcom/example/quaymark/quaymark/Review$Withdrawal;" .null := f410.other W400 (Or.inr (slot_ne (Or.inr (wd115 hw)) (Or.inr (wd109 hw)) (by decide) (t := (.object "com/example/quaymark/quaymark/Review$Withdrawal")) (t' := (.object "java/lang/String")) (by decide) (by decide)))
  have f412 : Fld Z h404 a1 "com/example/quaymark/quaymark/Review" "withdrawn" "Lcom/example/quaymark/quaymark/Review$Withdrawal;" .null := f411.other W404 (Or.inr (slot_ne (Or.inr (wd115 hw)) (Or.inr (wd111 hw)) (by decide) (t := (.object "com/example/quaymark/quaymark/Review$Withdrawal")) (t' := (.object "java/util/List")) (by decide) (by decide)))
  have f413 : Fld Z h409 a1 "com/example/quaymark/quaymark/Review" "withdrawn" "Lcom/example/quaymark/quaymark/Review$Withdrawal;" .null := f412.other W409 (Or.inr (slot_ne (Or.inr (wd115 hw)) (Or.inr (wd113 hw)) (by decide) (t := (.object "com/example/quaymark/quaymark/Review$Withdrawal")) (t' := (.object "java/lang/String")) (by decide) (by decide)))
  have f414 : Exa Z h409 a1 "com/example/quaymark/quaymark/Review" := f408.wr W409
  refine g_putF X409 hx hZ0 hown0 (host := "") (Or.inl (wd114 hw)) Via.refl f413 f414 (Or.inr ⟨(wd115 hw), rfl, hnm⟩) (wd73 hw) (ty := (.object "com/example/quaymark/quaymark/Review$Withdrawal")) (by decide) (own_nref P8r) (own_fref P8r) e409 (hb hby d_prog_23m1_27) (q := 30) rfl ?_
  intro T415 h415 X415 e415 W415
  have N415 := Fr.snoc X415 N409 P6r
  have Fw415 : Fld Z h415 a1 "com/example/quaymark/quaymark/Review" "withdrawn" "Lcom/example/quaymark/quaymark/Review$Withdrawal;" vB := f413.same W415
  have K416 : Keep h0 T397.heap [a1] := (Keep.refl h0 [a1]).trans K397q all0
  have K417 : Keep h0 h400 [a1] := K416.wr W400 (Or.inl (by simp))
  have K418 : Keep h0 h404 [a1] := K417.wr W404 (Or.inl (by simp))
  have K419 : Keep h0 h409 [a1] := K418.wr W409 (Or.inl (by simp))
  have K420 : Keep h0 h415 [a1] := K419.wr W415 (Or.inl (by simp))
  have f421 : Exa Z h415 a1 "com/example/quaymark/quaymark/Review" := f414.wr W415
  have f422 : Fld Z h404 a1 "com/example/quaymark/quaymark/Review" "submittedBy" "Ljava/lang/String;" (.ref a2) := Fw400.other W404 (Or.inr (slot_ne (Or.inr (wd109 hw)) (Or.inr (wd111 hw)) (by decide) (t := (.object "java/lang/String")) (t' := (.object "java/util/List")) (by decide) (by decide)))
  have f423 : Fld Z h409 a1 "com/example/quaymark/quaymark/Review" "submittedBy" "Ljava/lang/String;" (.ref a2) := f422.other W409 (Or.inr (slot_ne (Or.inr (wd109 hw)) (Or.inr (wd113 hw)) (by decide) (t := (.object "java/lang/String")) (t' := (.object "java/lang/String")) (by decide) (by decide)))
  have f424 : Fld Z h415 a1 "com/example/quaymark/quaymark/Review" "submittedBy" "Ljava/lang/String;" (.ref a2) := f423.other W415 (Or.inr (slot_ne (Or.inr (wd109 hw)) (Or.inr (wd115 hw)) (by decide) (t := (.object "java/lang/String")) (t' := (.object "com/example/quaymark/quaymark/Review$Withdrawal")) (by decide) (by decide)))
  have f425 : Fld Z h409 a1 "com/example/quaymark/quaymark/Review" "leftOut" "Ljava/util/List;" (.ref q_397) := Fw404.other W409 (Or.inr (slot_ne (Or.inr (wd111 hw)) (Or.inr (wd113 hw)) (by decide) (t := (.object "java/util/List")) (t' := (.object "java/lang/String")) (by decide) (by decide)))
  have f426 : Fld Z h415 a1 "com/example/quaymark/quaymark/Review" "leftOut" "Ljava/util/List;" (.ref q_397) := f425.other W415 (Or.inr (slot_ne (Or.inr (wd111 hw)) (Or.inr (wd115 hw)) (by decide) (t := (.object "java/util/List")) (t' := (.object "com/example/quaymark/quaymark/Review$Withdrawal")) (by decide) (by decide)))
  have f427 : Fld Z h415 a1 "com/example/quaymark/quaymark/Review" "signedOffBy" "Ljava/lang/String;" vS := Fw409.other W415 (Or.inr (slot_ne (Or.inr (wd113 hw)) (Or.inr (wd115 hw)) (by decide) (t := (.object "java/lang/String")) (t' := (.object "com/example/quaymark/quaymark/Review$Withdrawal")) (by decide) (by decide)))
  have gh428 : h0.size ≤ q_397 := Nat.le_trans (Nat.le_refl _) q397_0
  have f429 : Exa Z h400 q_397 "java/util/ImmutableCollections$List12" := q397_1.wr W400
  have f430 : Exa Z h404 q_397 "java/util/ImmutableCollections$List12" := f429.wr W404
  have f431 : Exa Z h409 q_397 "java/util/ImmutableCollections$List12" := f430.wr W409
  have f432 : Exa Z h415 q_397 "java/util/ImmutableCollections$List12" := f431.wr W415
  have ne433 : q_397 ≠ a1 := (Nat.ne_of_gt (Nat.lt_of_lt_of_le (Nat.lt_of_lt_of_le P1r.lt (Nat.le_refl _)) q397_0))
  have f434 : Fld Z h400 q_397 "java/util/ImmutableCollections$List12" "e0" "Ljava/lang/Object;" (.ref x0) := q397_2.other W400 (Or.inl ne433)
  have f435 : Fld Z h404 q_397 "java/util/ImmutableCollections$List12" "e0" "Ljava/lang/Object;" (.ref x0) := f434.other W404 (Or.inl ne433)
  have f436 : Fld Z h409 q_397 "java/util/ImmutableCollections$List12" "e0" "Ljava/lang/Object;" (.ref x0) := f435.other W409 (Or.inl ne433)
  have f437 : Fld Z h415 q_397 "java/util/ImmutableCollections$List12" "e0" "Ljava/lang/Object;" (.ref x0) := f436.other W415 (Or.inl ne433)
  have f438 : Fld Z h400 q_397 "java/util/ImmutableCollections$List12" "e1" "Ljava/lang/Object;" (.ref x1) := q397_3.other W400 (Or.inl ne433)
  have f439 : Fld Z h404 q_397 "java/util/ImmutableCollections$List12" "e1" "Ljava/lang/Object;" (.ref x1) := f438.other W404 (Or.inl ne433)
  have f440 : Fld Z h409 q_397 "java/util/ImmutableCollections$List12" "e1" "Ljava/lang/Object;" (.ref x1) := f439.other W409 (Or.inl ne433)
  have f441 : Fld Z h415 q_397 "java/util/ImmutableCollections$List12" "e1" "Ljava/lang/Object;" (.ref x1) := f440.other W415 (Or.inl ne433)
  refine endP X415 hlk (fun _ => rfl) (lastV X415 hx hret (hb hby d_prog_23m1_30)) ?_ (by decide) (by decide)
  rw [e415]
  exact ⟨q_397, rfl, N415, K420, f421, f424, f426, f427, Fw415, gh428, f432, f437, f441⟩
theorem d_jdk_45m3_0 : decode jdk_45_method_3_code 0 = .ok (.aload_n 0, 1) := by decide +kernel
theorem d_jdk_45m3_1 : decode jdk_45_method_3_code 1 = .ok (.getfield 7, 3) := by decide +kernel
theorem wd145 {a0 : Array Value} {Z : State} (hw : HW a0 Z) : ((Jvm.Cond.fieldLink "java/util/ImmutableCollections$ListN" (7 : Nat) "java/util/ImmutableCollections$ListN" "elements" "[Ljava/lang/Object;") : Jvm.Cond).before a0 Z = true := hw _ (List.mem_of_getElem? (i := 145) rfl)
theorem d_jdk_45m3_4 : decode jdk_45_method_3_code 4 = .ok (.arraylength, 1) := by decide +kernel
theorem d_jdk_45m3_5 : decode jdk_45_method_3_code 5 = .ok (.ireturn, 1) := by decide +kernel
def Q_lnsize (Z : State) (zC : Int32) (aE : Addr) (aD : Addr) (aM : Addr) (mO : Addr) (eA : Addr) (eK : ClassId) (eL : List Value) (h0 : Heap) (v : Option Value) (h : Heap) (L : List Loc) : Prop := v = some (.int (0 : Int32)) ∧ Fr Z.heap.size L ∧ h = h0
theorem pn16 : plainName "java/util/ImmutableCollections$ListN" = true := by first | (simp [plainName, overriddenIn]; done) | decide +kernel
theorem rm_lnsize (l : Launch) (Z : State) (a0 : Array Value) (hw : HW a0 Z) (zC : Int32) (SC : tSC Z zC) (PC : ¬ zC = (0 : Int32)) (aE : Addr) (SE : tSE Z aE) (aD : Addr) (SD : tSD Z aD) (aM : Addr) (SM : tSM Z aM) (mO : Addr) (MO : tMO Z mO) (eA : Addr) (eK : ClassId) (eL : List Value) (h0 : Heap) (O0 : Old Z Z.heap.size h0) (PE1 : Exa Z h0 aE "java/util/ImmutableCollections$ListN") (PE2 : Fld Z h0 aE "java/util/ImmutableCollections$ListN" "elements" "[Ljava/lang/Object;" (.ref eA)) (PE3 : Arv Z h0 eA eK (.object "java/lang/Object") (0 : Int32) eL .null) (PE4 : Fld Z h0 aE "java/util/ImmutableCollections$ListN" "allowNulls" "Z" (.int (0 : Int32))) :
    Con l Z (⟨"java/util/ImmutableCollections$ListN", "size", "()I"⟩ : MethodName) jdk_45_method_3_code 1 (some .int) ({ frames := 0, cells := 0, slots := 0, locals := 0 } : Room) #[(.ref aE)] h0 (Q_lnsize Z zC aE aD aM mO eA eK eL h0) := by
  refine Con.intro (plainFor_of_name pn16) ?_
  intro p e s m below meth c T0 X0 hx hby hml hown0 hnm hret hlk hZ0 e0
  have N0 := Fr.nil Z.heap.size
  refine castGo (g' := mkF m 0 #[.val (.ref aE)] []) (by first | rfl | (simp [entryFrame, mkF, argsToLocals, Value.category]; done)) ?_
  show Go _ _ _ _ (T0.setTop (mkF m 0 #[.val (.ref aE)] []))
  refine aL X0 hx (hb hby d_jdk_45m3_0) (q := 1) rfl rfl rfl ?_
  refine g_getF X0 hx hZ0 hown0 (host := "") (Or.inl (wd145 hw)) Via.refl PE2 e0 (hb hby d_jdk_45m3_1) (q := 4) rfl ?_
  intro T442 X442 e442
  refine g_len X442 hx hZ0 PE3 e442 (hb hby d_jdk_45m3_4) (q := 5) rfl ?_
  refine endP X442 hlk (fun h => by rw [hret] at h; cases h) (lastI X442 hx hret (hb hby d_jdk_45m3_5)) ?_ (by decide) (by decide)
  rw [e442]
  exact ⟨rfl, N0, rfl⟩
theorem d_jdk_44m3_0 : decode jdk_44_method_3_code 0 = .ok (.aload_n 0, 1) := by decide +kernel
theorem d_jdk_44m3_1 : decode jdk_44_method_3_code 1 = .ok (.getfield 24, 3) := by decide +kernel
theorem d_jdk_44m3_4 : decode jdk_44_method_3_code 4 = .ok (.getstatic 19, 3) := by decide +kernel
theorem d_jdk_44m3_7 : decode jdk_44_method_3_code 7 = .ok (.if_acmp .eq 7, 3) := by decide +kernel
theorem d_jdk_44m3_14 : decode jdk_44_method_3_code 14 = .ok (.iconst 1, 1) := by decide +kernel
theorem d_jdk_44m3_15 : decode jdk_44_method_3_code 15 = .ok (.ireturn, 1) := by decide +kernel
def Q_size1 (Z : State) (zC : Int32) (aE : Addr) (aD : Addr) (aM : Addr) (mO : Addr) (a1 : Addr) (h0 : Heap) (v : Option Value) (h : Heap) (L : List Loc) : Prop := v = some (.int (1 : Int32)) ∧ Fr Z.heap.size L ∧ h = h0
theorem rm_size1 (l : Launch) (Z : State) (a0 : Array Value) (hw : HW a0 Z) (zC : Int32) (SC : tSC Z zC) (PC : ¬ zC = (0 : Int32)) (aE : Addr) (SE : tSE Z aE) (aD : Addr) (SD : tSD Z aD) (aM : Addr) (SM : tSM Z aM) (mO : Addr) (MO : tMO Z mO) (a1 : Addr) (h0 : Heap) (O0 : Old Z Z.heap.size h0) (P1 : Fld Z h0 a1 "java/util/ImmutableCollections$List12" "e1" "Ljava/lang/Object;" (.ref aM)) :
    Con l Z (⟨"java/util/ImmutableCollections$List12", "size", "()I"⟩ : MethodName) jdk_44_method_3_code 1 (some .int) ({ frames := 0, cells := 0, slots := 0, locals := 0 } : Room) #[(.ref a1)] h0 (Q_size1 Z zC aE aD aM mO a1 h0) := by
  refine Con.intro (plainFor_of_name pn12) ?_
  intro p e s m below meth c T0 X0 hx hby hml hown0 hnm hret hlk hZ0 e0
  have N0 := Fr.nil Z.heap.size
  refine castGo (g' := mkF m 0 #[.val (.ref a1)] []) (by first | rfl | (simp [entryFrame, mkF, argsToLocals, Value.category]; done)) ?_
  show Go _ _ _ _ (T0.setTop (mkF m 0 #[.val (.ref a1)] []))
  refine aL X0 hx (hb hby d_jdk_44m3_0) (q := 1) rfl rfl rfl ?_
  refine g_getF X0 hx hZ0 hown0 (host := "") (Or.inl (wd266 hw)) Via.refl P1 e0 (hb hby d_jdk_44m3_1) (q := 4) rfl ?_
  intro T443 X443 e443
  refine g_getS X443 hx hZ0 hown0 (Or.inr (wd274 hw)) Via.refl (SM.ext O0.2) e443 (hb hby d_jdk_44m3_4) (q := 7) rfl ?_
  intro T444 X444 e444
  refine g_acmp X444 hx (hb hby d_jdk_44m3_7) (q := 14) rfl rfl (same := true) (decide_eq_true rfl) (by decide) (by decide) ?_
  refine cI X444 hx (hb hby d_jdk_44m3_14) (q := 15) rfl (z := (1 : Int32)) rfl ?_
  refine endP X444 hlk (fun h => by rw [hret] at h; cases h) (lastI X444 hx hret (hb hby d_jdk_44m3_15)) ?_ (by decide) (by decide)
  rw [e444]
  exact ⟨rfl, N0, rfl⟩
theorem d_jdk_44m3_10 : decode jdk_44_method_3_code 10 = .ok (.iconst 2, 1) := by decide +kernel
theorem d_jdk_44m3_11 : decode jdk_44_method_3_code 11 = .ok (.goto 4, 3) := by decide +kernel
def Q_size2 (Z : State) (zC : Int32) (aE : Addr) (aD : Addr) (aM : Addr) (mO : Addr) (a1 : Addr) (x1 : Addr) (h0 : Heap) (v : Option Value) (h : Heap) (L : List Loc) : Prop := v = some (.int (2 : Int32)) ∧ Fr Z.heap.size L ∧ h = h0
theorem rm_size2 (l : Launch) (Z : State) (a0 : Array Value) (hw : HW a0 Z) (zC : Int32) (SC : tSC Z zC) (PC : ¬ zC = (0 : Int32)) (aE : Addr) (SE : tSE Z aE) (aD : Addr) (SD : tSD Z aD) (aM : Addr) (SM : tSM Z aM) (mO : Addr) (MO : tMO Z mO) (a1 : Addr) (x1 : Addr) (h0 : Heap) (O0 : Old Z Z.heap.size h0) (P1 : Fld Z h0 a1 "java/util/ImmutableCollections$List12" "e1" "Ljava/lang/Object;" (.ref x1)) (P2 : Exa Z h0 x1 "com/example/quaymark/quaymark/Review$LeftOut") (PM1 : Exa Z h0 aM "java/lang/Object") :
    Con l Z (⟨"java/util/ImmutableCollections$List12", "size", "()I"⟩ : MethodName) jdk_44_method_3_code 1 (some .int) ({ frames := 0, cells := 0, slots := 0, locals := 0 } : Room) #[(.ref a1)] h0 (Q_size2 Z zC aE aD aM mO a1 x1 h0) := by
  refine Con.intro (plainFor_of_name pn12) ?_
  intro p e s m below meth c T0 X0 hx hby hml hown0 hnm hret hlk hZ0 e0
  have N0 := Fr.nil Z.heap.size
  refine castGo (g' := mkF m 0 #[.val (.ref a1)] []) (by first | rfl | (simp [entryFrame, mkF, argsToLocals, Value.category]; done)) ?_
  show Go _ _ _ _ (T0.setTop (mkF m 0 #[.val (.ref a1)] []))
  refine aL X0 hx (hb hby d_jdk_44m3_0) (q := 1) rfl rfl rfl ?_
  refine g_getF X0 hx hZ0 hown0 (host := "") (Or.inl (wd266 hw)) Via.refl P1 e0 (hb hby d_jdk_44m3_1) (q := 4) rfl ?_
  intro T445 X445 e445
  refine g_getS X445 hx hZ0 hown0 (Or.inr (wd274 hw)) Via.refl (SM.ext O0.2) e445 (hb hby d_jdk_44m3_4) (q := 7) rfl ?_
  intro T446 X446 e446
  have ne447 : x1 ≠ aM := (ne_exa P2 PM1 (by decide))
  refine g_acmp X446 hx (hb hby d_jdk_44m3_7) (q := 10) rfl rfl (same := false) (decide_eq_false fun q => ne447 (Value.ref.inj q)) (by decide) (by decide) ?_
  refine cI X446 hx (hb hby d_jdk_44m3_10) (q := 11) rfl (z := (2 : Int32)) rfl ?_
  refine g_goto X446 hx (hb hby d_jdk_44m3_11) (q := 15) (by decide) (by decide) ?_
  refine endP X446 hlk (fun h => by rw [hret] at h; cases h) (lastI X446 hx hret (hb hby d_jdk_44m3_15)) ?_ (by decide) (by decide)
  rw [e446]
  exact ⟨rfl, N0, rfl⟩
theorem d_jdk_44m5_0 : decode jdk_44_method_5_code 0 = .ok (.iload_n 1, 1) := by decide +kernel
theorem d_jdk_44m5_1 : decode jdk_44_method_5_code 1 = .ok (.ifCond .ne 8, 3) := by decide +kernel
theorem d_jdk_44m5_4 : decode jdk_44_method_5_code 4 = .ok (.aload_n 0, 1) := by decide +kernel
theorem d_jdk_44m5_5 : decode jdk_44_method_5_code 5 = .ok (.getfield 13, 3) := by decide +kernel
theorem d_jdk_44m5_8 : decode jdk_44_method_5_code 8 = .ok (.areturn, 1) := by decide +kernel
def Q_get0 (Z : State) (zC : Int32) (aE : Addr) (aD : Addr) (aM : Addr) (mO : Addr) (a1 : Addr) (x0 : Addr) (h0 : Heap) (v : Option Value) (h : Heap) (L : List Loc) : Prop := v = some (.ref x0) ∧ Fr Z.heap.size L ∧ h = h0
theorem rm_get0 (l : Launch) (Z : State) (a0 : Array Value) (hw : HW a0 Z) (zC : Int32) (SC : tSC Z zC) (PC : ¬ zC = (0 : Int32)) (aE : Addr) (SE : tSE Z aE) (aD : Addr) (SD : tSD Z aD) (aM : Addr) (SM : tSM Z aM) (mO : Addr) (MO : tMO Z mO) (a1 : Addr) (x0 : Addr) (h0 : Heap) (O0 : Old Z Z.heap.size h0) (P1 : Fld Z h0 a1 "java/util/ImmutableCollections$List12" "e0" "Ljava/lang/Object;" (.ref x0)) :
    Con l Z (⟨"java/util/ImmutableCollections$List12", "get", "(I)Ljava/lang/Object;"⟩ : MethodName) jdk_44_method_5_code 2 (some (.object "java/lang/Object")) ({ frames := 0, cells := 0, slots := 0, locals := 0 } : Room) #[(.ref a1), (.int (0 : Int32))] h0 (Q_get0 Z zC aE aD aM mO a1 x0 h0) := by
  refine Con.intro (plainFor_of_name pn12) ?_
  intro p e s m below meth c T0 X0 hx hby hml hown0 hnm hret hlk hZ0 e0
  have N0 := Fr.nil Z.heap.size
  refine castGo (g' := mkF m 0 #[.val (.ref a1), .val (.int (0 : Int32))] []) (by first | rfl | (simp [entryFrame, mkF, argsToLocals, Value.category]; done)) ?_
  show Go _ _ _ _ (T0.setTop (mkF m 0 #[.val (.ref a1), .val (.int (0 : Int32))] []))
  refine iL X0 hx (hb hby d_jdk_44m5_0) (q := 1) rfl rfl ?_
  refine ifN X0 hx (hb hby d_jdk_44m5_1) (q := 4) rfl (by decide) ?_
  refine aL X0 hx (hb hby d_jdk_44m5_4) (q := 5) rfl rfl rfl ?_
  refine g_getF X0 hx hZ0 hown0 (host := "") (Or.inl (wd264 hw)) Via.refl P1 e0 (hb hby d_jdk_44m5_5) (q := 8) rfl ?_
  intro T448 X448 e448
  refine endP X448 hlk (fun h => by rw [hret] at h; cases h) (lastA X448 hx hret rfl rfl rfl (hb hby d_jdk_44m5_8)) ?_ (by decide) (by decide)
  rw [e448]
  exact ⟨rfl, N0, rfl⟩
theorem d_jdk_44m5_9 : decode jdk_44_method_5_code 9 = .ok (.iload_n 1, 1) := by decide +kernel
theorem d_jdk_44m5_10 : decode jdk_44_method_5_code 10 = .ok (.iconst 1, 1) := by decide +kernel
theorem d_jdk_44m5_11 : decode jdk_44_method_5_code 11 = .ok (.if_icmp .ne 18, 3) := by decide +kernel
theorem d_jdk_44m5_14 : decode jdk_44_method_5_code 14 = .ok (.aload_n 0, 1) := by decide +kernel
theorem d_jdk_44m5_15 : decode jdk_44_method_5_code 15 = .ok (.getfield 24, 3) := by decide +kernel
theorem d_jdk_44m5_18 : decode jdk_44_method_5_code 18 = .ok (.getstatic 19, 3) := by decide +kernel
theorem d_jdk_44m5_21 : decode jdk_44_method_5_code 21 = .ok (.if_acmp .eq 8, 3) := by decide +kernel
theorem d_jdk_44m5_24 : decode jdk_44_method_5_code 24 = .ok (.aload_n 0, 1) := by decide +kernel
theorem d_jdk_44m5_25 : decode jdk_44_method_5_code 25 = .ok (.getfield 24, 3) := by decide +kernel
theorem d_jdk_44m5_28 : decode jdk_44_method_5_code 28 = .ok (.areturn, 1) := by decide +kernel
def Q_get1 (Z : State) (zC : Int32) (aE : Addr) (aD : Addr) (aM : Addr) (mO : Addr) (a1 : Addr) (x1 : Addr) (h0 : Heap) (v : Option Value) (h : Heap) (L : List Loc) : Prop := v = some (.ref x1) ∧ Fr Z.heap.size L ∧ h = h0
theorem rm_get1 (l : Launch) (Z : State) (a0 : Array Value) (hw : HW a0 Z) (zC : Int32) (SC : tSC Z zC) (PC : ¬ zC = (0 : Int32)) (aE : Addr) (SE : tSE Z aE) (aD : Addr) (SD : tSD Z aD) (aM : Addr) (SM : tSM Z aM) (mO : Addr) (MO : tMO Z mO) (a1 : Addr) (x1 : Addr) (h0 : Heap) (O0 : Old Z Z.heap.size h0) (P1 : Fld Z h0 a1 "java/util/ImmutableCollections$List12" "e1" "Ljava/lang/Object;" (.ref x1)) (P2 : Exa Z h0 x1 "com/example/quaymark/quaymark/Review$LeftOut") (PM1 : Exa Z h0 aM "java/lang/Object") :
    Con l Z (⟨"java/util/ImmutableCollections$List12", "get", "(I)Ljava/lang/Object;"⟩ : MethodName) jdk_44_method_5_code 2 (some (.object "java/lang/Object")) ({ frames := 0, cells := 0, slots := 0, locals := 0 } : Room) #[(.ref a1), (.int (1 : Int32))] h0 (Q_get1 Z zC aE aD aM mO a1 x1 h0) := by
  refine Con.intro (plainFor_of_name pn12) ?_
  intro p e s m below meth c T0 X0 hx hby hml hown0 hnm hret hlk hZ0 e0
  have N0 := Fr.nil Z.heap.size
  refine castGo (g' := mkF m 0 #[.val (.ref a1), .val (.int (1 : Int32))] []) (by first | rfl | (simp [entryFrame, mkF, argsToLocals, Value.category]; done)) ?_
  show Go _ _ _ _ (T0.setTop (mkF m 0 #[.val (.ref a1), .val (.int (1 : Int32))] []))
  refine iL X0 hx (hb hby d_jdk_44m5_0) (q := 1) rfl rfl ?_
  refine ifY X0 hx (hb hby d_jdk_44m5_1) (q := 9) (by decide) (by decide) (by decide) ?_
  refine iL X0 hx (hb hby d_jdk_44m5_9) (q := 10) rfl rfl ?_
  refine cI X0 hx (hb hby d_jdk_44m5_10) (q := 11) rfl (z := (1 : Int32)) rfl ?_
  refine icN X0 hx (hb hby d_jdk_44m5_11) (q := 14) rfl (by decide) ?_
  refine aL X0 hx (hb hby d_jdk_44m5_14) (q := 15) rfl rfl rfl ?_
  refine g_getF X0 hx hZ0 hown0 (host := "") (Or.inl (wd266 hw)) Via.refl P1 e0 (hb hby d_jdk_44m5_15) (q := 18) rfl ?_
  intro T449 X449 e449
  refine g_getS X449 hx hZ0 hown0 (Or.inr (wd274 hw)) Via.refl (SM.ext O0.2) e449 (hb hby d_jdk_44m5_18) (q := 21) rfl ?_
  intro T450 X450 e450
  have ne451 : x1 ≠ aM := (ne_exa P2 PM1 (by decide))
  refine g_acmp X450 hx (hb hby d_jdk_44m5_21) (q := 24) rfl rfl (same := false) (decide_eq_false fun q => ne451 (Value.ref.inj q)) (by decide) (by decide) ?_
  refine aL X450 hx (hb hby d_jdk_44m5_24) (q := 25) rfl rfl rfl ?_
  refine g_getF X450 hx hZ0 hown0 (host := "") (Or.inl (wd266 hw)) Via.refl P1 e450 (hb hby d_jdk_44m5_25) (q := 28) rfl ?_
  intro T452 X452 e452
  refine endP X452 hlk (fun h => by rw [hret] at h; cases h) (lastA X452 hx hret rfl rfl rfl (hb hby d_jdk_44m5_28)) ?_ (by decide) (by decide)
  rw [e452]
  exact ⟨rfl, N0, rfl⟩
theorem d_prog_23m5_0 : decode prog_23_method_5_code 0 = .ok (.new 14, 3) := by decide +kernel
theorem wd121 {a0 : Array Value} {Z : State} (hw : HW a0 Z) : ((Jvm.Cond.classLink "com/example/quaymark/quaymark/Review" (14 : Nat) "com/example/quaymark/quaymark/Review") : Jvm.Cond).before a0 Z = true := hw _ (List.mem_of_getElem? (i := 121) rfl)
theorem wd74 {a0 : Array Value} {Z : State} (hw : HW a0 Z) : ((Jvm.Cond.initialized "com/example/quaymark/quaymark/Review") : Jvm.Cond).before a0 Z = true := hw _ (List.mem_of_getElem? (i := 74) rfl)
theorem d_prog_23m5_3 : decode prog_23_method_5_code 3 = .ok (.dup, 1) := by decide +kernel
theorem d_prog_23m5_4 : decode prog_23_method_5_code 4 = .ok (.aload_n 0, 1) := by decide +kernel
theorem d_prog_23m5_5 : decode prog_23_method_5_code 5 = .ok (.getfield 13, 3) := by decide +kernel
theorem d_prog_23m5_8 : decode prog_23_method_5_code 8 = .ok (.aload_n 0, 1) := by decide +kernel
theorem d_prog_23m5_9 : decode prog_23_method_5_code 9 = .ok (.getfield 19, 3) := by decide +kernel
theorem d_prog_23m5_12 : decode prog_23_method_5_code 12 = .ok (.aconst_null, 1) := by decide +kernel
theorem d_prog_23m5_13 : decode prog_23_method_5_code 13 = .ok (.aload_n 1, 1) := by decide +kernel
theorem d_prog_23m5_14 : decode prog_23_method_5_code 14 = .ok (.invokespecial 34, 3) := by decide +kernel
theorem wd77 {a0 : Array Value} {Z : State} (hw : HW a0 Z) : ((Jvm.Cond.code ({ cls := "com/example/quaymark/quaymark/Review", name := "<init>", desc := "(Ljava/lang/String;Ljava/util/List;Ljava/lang/String;Lcom/example/quaymark/quaymark/Review$Withdrawal;)V" } : Jvm.MethodName) prog_23_method_1_code (5 : Nat) (Option.none : Option Jvm.ClassFile.FieldType)) : Jvm.Cond).before a0 Z = true := hw _ (List.mem_of_getElem? (i := 77) rfl)
theorem pd14 : parseMethodDescriptor "(Ljava/lang/String;Ljava/util/List;Ljava/lang/String;Lcom/example/quaymark/quaymark/Review$Withdrawal;)V" = some ⟨[(.object "java/lang/String"), (.object "java/util/List"), (.object "java/lang/String"), (.object "com/example/quaymark/quaymark/Review$Withdrawal")], none⟩ := by decide +kernel
theorem wd122 {a0 : Array Value} {Z : State} (hw : HW a0 Z) : ((Jvm.Cond.methodLink "com/example/quaymark/quaymark/Review" (34 : Nat) ({ cls := "com/example/quaymark/quaymark/Review", name := "<init>", desc := "(Ljava/lang/String;Ljava/util/List;Ljava/lang/String;Lcom/example/quaymark/quaymark/Review$Withdrawal;)V" } : Jvm.MethodName)) : Jvm.Cond).before a0 Z = true := hw _ (List.mem_of_getElem? (i := 122) rfl)
theorem wd76 {a0 : Array Value} {Z : State} (hw : HW a0 Z) : ((Jvm.Cond.instanceMethod ({ cls := "com/example/quaymark/quaymark/Review", name := "<init>", desc := "(Ljava/lang/String;Ljava/util/List;Ljava/lang/String;Lcom/example/quaymark/quaymark/Review$Withdrawal;)V" } : Jvm.MethodName)) : Jvm.Cond).before a0 Z = true := hw _ (List.mem_of_getElem? (i := 76) rfl)
theorem d_prog_23m5_17 : decode prog_23_method_5_code 17 = .ok (.areturn, 1) := by decide +kernel
def Q_withdrawing (Z : State) (zC : Int32) (aE : Addr) (aD : Addr) (aM : Addr) (mO : Addr) (a1 : Addr) (a2 : Addr) (vW : Value) (eA : Addr) (eK : ClassId) (eL : List Value) (h0 : Heap) (v : Option Value) (h : Heap) (L : List Loc) : Prop := ∃ (r : Addr), v = some (.ref r) ∧ Fr Z.heap.size L ∧ Keep h0 h [] ∧ h0.size ≤ r ∧ Exa Z h r "com/example/quaymark/quaymark/Review" ∧ Fld Z h r "com/example/quaymark/quaymark/Review" "submittedBy" "Ljava/lang/String;" (.ref a2) ∧ Fld Z h r "com/example/quaymark/quaymark/Review" "leftOut" "Ljava/util/List;" (.ref aE) ∧ Fld Z h r "com/example/quaymark/quaymark/Review" "signedOffBy" "Ljava/lang/String;" .null ∧ Fld Z h r "com/example/quaymark/quaymark/Review" "withdrawn" "Lcom/example/quaymark/quaymark/Review$Withdrawal;" vW
theorem rm_withdrawing (l : Launch) (Z : State) (a0 : Array Value) (hw : HW a0 Z) (zC : Int32) (SC : tSC Z zC) (PC : ¬ zC = (0 : Int32)) (aE : Addr) (SE : tSE Z aE) (aD : Addr) (SD : tSD Z aD) (aM : Addr) (SM : tSM Z aM) (mO : Addr) (MO : tMO Z mO) (a1 : Addr) (a2 : Addr) (vW : Value) (eA : Addr) (eK : ClassId) (eL : List Value) (h0 : Heap) (O0 : Old Z Z.heap.size h0) (P1 : Fld Z h0 a1 "com/example/quaymark/quaymark/Review" "submittedBy" "Ljava/lang/String;" (.ref a2)) (P2 : Fld Z h0 a1 "com/example/quaymark/quaymark/Review" "leftOut" "Ljava/util/List;" (.ref aE)) (P3 : vW.isRef = true) (PE1 : Exa Z h0 aE "java/util/ImmutableCollections$ListN") (PE2 : Fld Z h0 aE "java/util/ImmutableCollections$ListN" "elements" "[Ljava/lang/Object;" (.ref eA)) (PE3 : Arv Z h0 eA eK (.object "java/lang/Object") (0 : Int32) eL .null) (PE4 : Fld Z h0 aE "java/util/ImmutableCollections$ListN" "allowNulls" "Z" (.int (0 : Int32))) :
    Con l Z (⟨"com/example/quaymark/quaymark/Review", "withdrawing", "(Lcom/example/quaymark/quaymark/Review$Withdrawal;)Lcom/example/quaymark/quaymark/Review;"⟩ : MethodName) prog_23_method_5_code 2 (some (.object "com/example/quaymark/quaymark/Review")) ({ frames := 3, cells := 1, slots := 4, locals := 42 } : Room) #[(.ref a1), vW] h0 (Q_withdrawing Z zC aE aD aM mO a1 a2 vW eA eK eL h0) := by
  refine Con.intro (plainFor_of_name pn15) ?_
  intro p e s m below meth c T0 X0 hx hby hml hown0 hnm hret hlk hZ0 e0
  have N0 := Fr.nil Z.heap.size
  refine castGo (g' := mkF m 0 #[.val (.ref a1), .val vW] []) (by rcases ref_cases P3 with q0 | ⟨_, q0⟩ <;> rw [q0] <;> rfl) ?_
  show Go _ _ _ _ (T0.setTop (mkF m 0 #[.val (.ref a1), .val vW] []))
  refine g_new X0 hx hZ0 hown0 (wd121 hw) (wd73 hw) (wd74 hw) (by decide) (by decide) e0 (hb hby d_prog_23m5_0) (q := 3) rfl ?_
  intro T453 h453 b453 g453 X453 e453 E453 A453 D453
  have F453_109 := D453 (Or.inr (wd109 hw)) (ty := (.object "java/lang/String")) (by decide)
  have F453_111 := D453 (Or.inr (wd111 hw)) (ty := (.object "java/util/List")) (by decide)
  have F453_113 := D453 (Or.inr (wd113 hw)) (ty := (.object "java/lang/String")) (by decide)
  have F453_115 := D453 (Or.inr (wd115 hw)) (ty := (.object "com/example/quaymark/quaymark/Review$Withdrawal")) (by decide)
  refine g_dup X453 hx (hb hby d_prog_23m5_3) (q := 4) rfl rfl ?_
  refine aL X453 hx (hb hby d_prog_23m5_4) (q := 5) rfl rfl rfl ?_
  have f454 : Fld Z h453 a1 "com/example/quaymark/quaymark/Review" "submittedBy" "Ljava/lang/String;" (.ref a2) := P1.ext E453
  refine g_getF X453 hx hZ0 hown0 (host := "") (Or.inl (wd108 hw)) Via.refl f454 e453 (hb hby d_prog_23m5_5) (q := 8) rfl ?_
  intro T455 X455 e455
  refine aL X455 hx (hb hby d_prog_23m5_8) (q := 9) rfl rfl rfl ?_
  have f456 : Fld Z h453 a1 "com/example/quaymark/quaymark/Review" "leftOut" "Ljava/util/List;" (.ref aE) := P2.ext E453
  refine g_getF X455 hx hZ0 hown0 (host := "") (Or.inl (wd110 hw)) Via.refl f456 e455 (hb hby d_prog_23m5_9) (q := 12) rfl ?_
  intro T457 X457 e457
  refine cN X457 hx (hb hby d_prog_23m5_12) (q := 13) rfl ?_
  refine aL X457 hx (hb hby d_prog_23m5_13) (q := 14) rfl rfl P3 ?_
  have gz464 : Z.heap.size ≤ b453 := Nat.le_trans O0.2.1 (Nat.le_of_eq g453.symm)
  have f465 : Exa Z h453 aE "java/util/ImmutableCollections$ListN" := PE1.ext E453
  have f466 : Fld Z h453 aE "java/util/ImmutableCollections$ListN" "elements" "[Ljava/lang/Object;" (.ref eA) := PE2.ext E453
  have f467 : Arv Z h453 eA eK (.object "java/lang/Object") (0 : Int32) eL .null := PE3.ext E453
  have f468 : Fld Z h453 aE "java/util/ImmutableCollections$ListN" "allowNulls" "Z" (.int (0 : Int32)) := PE4.ext E453
  have f469 : Old Z Z.heap.size h453 := O0.ext E453
  refine g_sp X457 hx hZ0 hown0 (wd122 hw) (wd76 hw) (wd77 hw) rfl (by decide) e457 (Con.back (W := 1) (rm_rvE l Z a0 hw zC SC PC aE SE aD SD aM SM mO MO b453 a2 .null vW eA eK eL h453 f469 A453 F453_109 F453_111 F453_113 F453_115 gz464 rfl P3 f465 f466 f467 f468) hZ0 (wd77 hw) (wd74 hw) (by decide) (by decide)) (by rw [hml]; rfl) (lenOf pd14 rfl) rfl (Nat.le_of_eq rfl) (hb hby d_prog_23m5_14) (q := 17) rfl (by decide) (by decide) ?_
  intro v463 T463 L463 X463 Q463
  obtain ⟨rfl, Nq463, K463q, q463_0, q463_1, q463_2, q463_3, q463_4⟩ := Q463
  have N463 := Fr.app N0 Nq463
  show Go _ _ _ _ (T463.setTop (mkF m 17 #[.val (.ref a1), .val vW] [(.ref b453)]))
  have K470 : Keep h0 h453 [] := (Keep.refl h0 []).ext E453
  have gh471 : h0.size ≤ b453 := Nat.le_trans (Nat.le_refl _) (Nat.le_of_eq g453.symm)
  have K472 : Keep h0 T463.heap [] := K470.trans K463q (allS (Or.inr gh471) all0)
  refine endP X463 hlk (fun h => by rw [hret] at h; cases h) (lastA X463 hx hret rfl rfl rfl (hb hby d_prog_23m5_17)) ?_ (by decide) (by decide)
  exact ⟨b453, rfl, N463, K472, gh471, q463_0, q463_1, q463_2, q463_3, q463_4⟩
def Q_withdrawing12 (Z : State) (zC : Int32) (aE : Addr) (aD : Addr) (aM : Addr) (mO : Addr) (a1 : Addr) (a2 : Addr) (a3 : Addr) (vW : Value) (h0 : Heap) (v : Option Value) (h : Heap) (L : List Loc) : Prop := ∃ (r : Addr), v = some (.ref r) ∧ Fr Z.heap.size L ∧ Keep h0 h [] ∧ h0.size ≤ r ∧ Exa Z h r "com/example/quaymark/quaymark/Review" ∧ Fld Z h r "com/example/quaymark/quaymark/Review" "submittedBy" "Ljava/lang/String;" (.ref a2) ∧ Fld Z h r "com/example/quaymark/quaymark/Review" "leftOut" "Ljava/util/List;" (.ref a3) ∧ Fld Z h r "com/example/quaymark/quaymark/Review" "signedOffBy" "Ljava/lang/String;" .null ∧ Fld Z h r "com/example/quaymark/quaymark/Review" "withdrawn" "Lcom/example/quaymark/quaymark/Review$Withdrawal;" vW
theorem rm_withdrawing12 (l : Launch) (Z : State) (a0 : Array Value) (hw : HW a0 Z) (zC : Int32) (SC : tSC Z zC) (PC : ¬ zC = (0 : Int32)) (aE : Addr) (SE : tSE Z aE) (aD : Addr) (SD : tSD Z aD) (aM : Addr) (SM : tSM Z aM) (mO : Addr) (MO : tMO Z mO) (a1 : Addr) (a2 : Addr) (a3 : Addr) (vW : Value) (h0 : Heap) (O0 : Old Z Z.heap.size h0) (P1 : Fld Z h0 a1 "com/example/quaymark/quaymark/Review" "submittedBy" "Ljava/lang/String;" (.ref a2)) (P2 : Fld Z h0 a1 "com/example/quaymark/quaymark/Review" "leftOut" "Ljava/util/List;" (.ref a3)) (P2b : Exa Z h0 a3 "java/util/ImmutableCollections$List12") (P3 : vW.isRef = true) :
    Con l Z (⟨"com/example/quaymark/quaymark/Review", "withdrawing", "(Lcom/example/quaymark/quaymark/Review$Withdrawal;)Lcom/example/quaymark/quaymark/Review;"⟩ : MethodName) prog_23_method_5_code 2 (some (.object "com/example/quaymark/quaymark/Review")) ({ frames := 3, cells := 1, slots := 4, locals := 42 } : Room) #[(.ref a1), vW] h0 (Q_withdrawing12 Z zC aE aD aM mO a1 a2 a3 vW h0) := by
  refine Con.intro (plainFor_of_name pn15) ?_
  intro p e s m below meth c T0 X0 hx hby hml hown0 hnm hret hlk hZ0 e0
  have N0 := Fr.nil Z.heap.size
  refine castGo (g' := mkF m 0 #[.val (.ref a1), .val vW] []) (by rcases ref_cases P3 with q0 | ⟨_, q0⟩ <;> rw [q0] <;> rfl) ?_
  show Go _ _ _ _ (T0.setTop (mkF m 0 #[.val (.ref a1), .val vW] []))
  refine g_new X0 hx hZ0 hown0 (wd121 hw) (wd73 hw) (wd74 hw) (by decide) (by decide) e0 (hb hby d_prog_23m5_0) (q := 3) rfl ?_
  intro T473 h473 b473 g473 X473 e473 E473 A473 D473
  have F473_109 := D473 (Or.inr (wd109 hw)) (ty := (.object "java/lang/String")) (by decide)
  have F473_111 := D473 (Or.inr (wd111 hw)) (ty := (.object "java/util/List")) (by decide)
  have F473_113 := D473 (Or.inr (wd113 hw)) (ty := (.object "java/lang/String")) (by decide)
  have F473_115 := D473 (Or.inr (wd115 hw)) (ty := (.object "com/example/quaymark/quaymark/Review$Withdrawal")) (by decide)
  refine g_dup X473 hx (hb hby d_prog_23m5_3) (q := 4) rfl rfl ?_
  refine aL X473 hx (hb hby d_prog_23m5_4) (q := 5) rfl rfl rfl ?_
  have f474 : Fld Z h473 a1 "com/example/quaymark/quaymark/Review" "submittedBy" "Ljava/lang/String;" (.ref a2) := P1.ext E473
  refine g_getF X473 hx hZ0 hown0 (host := "") (Or.inl (wd108 hw)) Via.refl f474 e473 (hb hby d_prog_23m5_5) (q := 8) rfl ?_
  intro T475 X475 e475
  refine aL X475 hx (hb hby d_prog_23m5_8) (q := 9) rfl rfl rfl ?_
  have f476 : Fld Z h473 a1 "com/example/quaymark/quaymark/Review" "leftOut" "Ljava/util/List;" (.ref a3) := P2.ext E473
  refine g_getF X475 hx hZ0 hown0 (host := "") (Or.inl (wd110 hw)) Via.refl f476 e475 (hb hby d_prog_23m5_9) (q := 12) rfl ?_
  intro T477 X477 e477
  refine cN X477 hx (hb hby d_prog_23m5_12) (q := 13) rfl ?_
  refine aL X477 hx (hb hby d_prog_23m5_13) (q := 14) rfl rfl P3 ?_
  have gz481 : Z.heap.size ≤ b473 := Nat.le_trans O0.2.1 (Nat.le_of_eq g473.symm)
  have f482 : Exa Z h473 a3 "java/util/ImmutableCollections$List12" := P2b.ext E473
  have f483 : Old Z Z.heap.size h473 := O0.ext E473
  refine g_sp X477 hx hZ0 hown0 (wd122 hw) (wd76 hw) (wd77 hw) rfl (by decide) e477 (Con.back (W := 1) (rm_rvL l Z a0 hw zC SC PC aE SE aD SD aM SM mO MO b473 a2 .null vW a3 h473 f483 A473 F473_109 F473_111 F473_113 F473_115 gz481 rfl P3 f482) hZ0 (wd77 hw) (wd74 hw) (by decide) (by decide)) (by rw [hml]; rfl) (lenOf pd14 rfl) rfl (Nat.le_of_eq rfl) (hb hby d_prog_23m5_14) (q := 17) rfl (by decide) (by decide) ?_
  intro v480 T480 L480 X480 Q480
  obtain ⟨rfl, Nq480, K480q, q480_0, q480_1, q480_2, q480_3, q480_4⟩ := Q480
  have N480 := Fr.app N0 Nq480
  show Go _ _ _ _ (T480.setTop (mkF m 17 #[.val (.ref a1), .val vW] [(.ref b473)]))
  have K484 : Keep h0 h473 [] := (Keep.refl h0 []).ext E473
  have gh485 : h0.size ≤ b473 := Nat.le_trans (Nat.le_refl _) (Nat.le_of_eq g473.symm)
  have K486 : Keep h0 T480.heap [] := K484.trans K480q (allS (Or.inr gh485) all0)
  refine endP X480 hlk (fun h => by rw [hret] at h; cases h) (lastA X480 hx hret rfl rfl rfl (hb hby d_prog_23m5_17)) ?_ (by decide) (by decide)
  exact ⟨b473, rfl, N480, K486, gh485, q480_0, q480_1, q480_2, q480_3, q480_4⟩
theorem d_prog_23m12_0 : decode prog_23_method_12_code 0 = .ok (.aload_n 0, 1) := by decide +kernel
theorem d_prog_23m12_1 : decode prog_23_method_12_code 1 = .ok (.getfield 13, 3) := by decide +kernel
theorem d_prog_23m12_4 : decode prog_23_method_12_code 4 = .ok (.areturn, 1) := by decide +kernel
def Q_get_submittedBy (Z : State) (zC : Int32) (aE : Addr) (aD : Addr) (aM : Addr) (mO : Addr) (a1 : Addr) (a2 : Addr) (h0 : Heap) (v : Option Value) (h : Heap) (L : List Loc) : Prop := v = some (.ref a2) ∧ Fr Z.heap.size L ∧ h = h0
theorem rm_get_submittedBy (l : Launch) (Z : State) (a0 : Array Value) (hw : HW a0 Z) (zC : Int32) (SC : tSC Z zC) (PC : ¬ zC = (0 : Int32)) (aE : Addr) (SE : tSE Z aE) (aD : Addr) (SD : tSD Z aD) (aM : Addr) (SM : tSM Z aM) (mO : Addr) (MO : tMO Z mO) (a1 : Addr) (a2 : Addr) (h0 : Heap) (O0 : Old Z Z.heap.size h0) (P1 : Fld Z h0 a1 "com/example/quaymark/quaymark/Review" "submittedBy" "Ljava/lang/String;" (.ref a2)) :
    Con l Z (⟨"com/example/quaymark/quaymark/Review", "submittedBy", "()Ljava/lang/String;"⟩ : MethodName) prog_23_method_12_code 1 (some (.object "java/lang/String")) ({ frames := 0, cells := 0, slots := 0, locals := 0 } : Room) #[(.ref a1)] h0 (Q_get_submittedBy Z zC aE aD aM mO a1 a2 h0) := by
  refine Con.intro (plainFor_of_name pn15) ?_
  intro p e s m below meth c T0 X0 hx hby hml hown0 hnm hret hlk hZ0 e0
  have N0 := Fr.nil Z.heap.size
  refine castGo (g' := mkF m 0 #[.val (.ref a1)] []) (by first | rfl | (simp [entryFrame, mkF, argsToLocals, Value.category]; done)) ?_
  show Go _ _ _ _ (T0.setTop (mkF m 0 #[.val (.ref a1)] []))
  refine aL X0 hx (hb hby d_prog_23m12_0) (q := 1) rfl rfl rfl ?_
  refine g_getF X0 hx hZ0 hown0 (host := "") (Or.inl (wd108 hw)) Via.refl P1 e0 (hb hby d_prog_23m12_1) (q := 4) rfl ?_
  intro T487 X487 e487
  refine endP X487 hlk (fun h => by rw [hret] at h; cases h) (lastA X487 hx hret rfl rfl rfl (hb hby d_prog_23m12_4)) ?_ (by decide) (by decide)
  rw [e487]
  exact ⟨rfl, N0, rfl⟩
theorem d_prog_23m13_0 : decode prog_23_method_13_code 0 = .ok (.aload_n 0, 1) := by decide +kernel
theorem d_prog_23m13_1 : decode prog_23_method_13_code 1 = .ok (.getfield 19, 3) := by decide +kernel
theorem d_prog_23m13_4 : decode prog_23_method_13_code 4 = .ok (.areturn, 1) := by decide +kernel
def Q_get_leftOut (Z : State) (zC : Int32) (aE : Addr) (aD : Addr) (aM : Addr) (mO : Addr) (a1 : Addr) (a2 : Addr) (h0 : Heap) (v : Option Value) (h : Heap) (L : List Loc) : Prop := v = some (.ref a2) ∧ Fr Z.heap.size L ∧ h = h0
theorem rm_get_leftOut (l : Launch) (Z : State) (a0 : Array Value) (hw : HW a0 Z) (zC : Int32) (SC : tSC Z zC) (PC : ¬ zC = (0 : Int32)) (aE : Addr) (SE : tSE Z aE) (aD : Addr) (SD : tSD Z aD) (aM : Addr) (SM : tSM Z aM) (mO : Addr) (MO : tMO Z mO) (a1 : Addr) (a2 : Addr) (h0 : Heap) (O0 : Old Z Z.heap.size h0) (P1 : Fld Z h0 a1 "com/example/quaymark/quaymark/Review" "leftOut" "Ljava/util/List;" (.ref a2)) :
    Con l Z (⟨"com/example/quaymark/quaymark/Review", "leftOut", "()Ljava/util/List;"⟩ : MethodName) prog_23_method_13_code 1 (some (.object "java/util/List")) ({ frames := 0, cells := 0, slots := 0, locals := 0 } : Room) #[(.ref a1)] h0 (Q_get_leftOut Z zC aE aD aM mO a1 a2 h0) := by
  refine Con.intro (plainFor_of_name pn15) ?_
  intro p e s m below meth c T0 X0 hx hby hml hown0 hnm hret hlk hZ0 e0
  have N0 := Fr.nil Z.heap.size
  refine castGo (g' := mkF m 0 #[.val (.ref a1)] []) (by first | rfl | (simp [entryFrame, mkF, argsToLocals, Value.category]; done)) ?_
  show Go _ _ _ _ (T0.setTop (mkF m 0 #[.val (.ref a1)] []))
  refine aL X0 hx (hb hby d_prog_23m13_0) (q := 1) rfl rfl rfl ?_
  refine g_getF X0 hx hZ0 hown0 (host := "") (Or.inl (wd110 hw)) Via.refl P1 e0 (hb hby d_prog_23m13_1) (q := 4) rfl ?_
  intro T488 X488 e488
  refine endP X488 hlk (fun h => by rw [hret] at h; cases h) (lastA X488 hx hret rfl rfl rfl (hb hby d_prog_23m13_4)) ?_ (by decide) (by decide)
  rw [e488]
  exact ⟨rfl, N0, rfl⟩
theorem d_prog_23m14_0 : decode prog_23_method_14_code 0 = .ok (.aload_n 0, 1) := by decide +kernel
theorem d_prog_23m14_1 : decode prog_23_method_14_code 1 = .ok (.getfield 23, 3) := by decide +kernel
theorem d_prog_23m14_4 : decode prog_23_method_14_code 4 = .ok (.areturn, 1) := by decide +kernel
def Q_get_signedOffBy (Z : State) (zC : Int32) (aE : Addr) (aD : Addr) (aM : Addr) (mO : Addr) (a1 : Addr) (h0 : Heap) (v : Option Value) (h : Heap) (L : List Loc) : Prop := v = some .null ∧ Fr Z.heap.size L ∧ h = h0
theorem rm_get_signedOffBy (l : Launch) (Z : State) (a0 : Array Value) (hw : HW a0 Z) (zC : Int32) (SC : tSC Z zC) (PC : ¬ zC = (0 : Int32)) (aE : Addr) (SE : tSE Z aE) (aD : Addr) (SD : tSD Z aD) (aM : Addr) (SM : tSM Z aM) (mO : Addr) (MO : tMO Z mO) (a1 : Addr) (h0 : Heap) (O0 : Old Z Z.heap.size h0) (P1 : Fld Z h0 a1 "com/example/quaymark/quaymark/Review" "signedOffBy" "Ljava/lang/String;" .null) :
    Con l Z (⟨"com/example/quaymark/quaymark/Review", "signedOffBy", "()Ljava/lang/String;"⟩ : MethodName) prog_23_method_14_code 1 (some (.object "java/lang/String")) ({ frames := 0, cells := 0, slots := 0, locals := 0 } : Room) #[(.ref a1)] h0 (Q_get_signedOffBy Z zC aE aD aM mO a1 h0) := by
  refine Con.intro (plainFor_of_name pn15) ?_
  intro p e s m below meth c T0 X0 hx hby hml hown0 hnm hret hlk hZ0 e0
  have N0 := Fr.nil Z.heap.size
  refine castGo (g' := mkF m 0 #[.val (.ref a1)] []) (by first | rfl | (simp [entryFrame, mkF, argsToLocals, Value.category]; done)) ?_
  show Go _ _ _ _ (T0.setTop (mkF m 0 #[.val (.ref a1)] []))
  refine aL X0 hx (hb hby d_prog_23m14_0) (q := 1) rfl rfl rfl ?_
  refine g_getF X0 hx hZ0 hown0 (host := "") (Or.inl (wd112 hw)) Via.refl P1 e0 (hb hby d_prog_23m14_1) (q := 4) rfl ?_
  intro T489 X489 e489
  refine endP X489 hlk (fun h => by rw [hret] at h; cases h) (lastA X489 hx hret rfl rfl rfl (hb hby d_prog_23m14_4)) ?_ (by decide) (by decide)
  rw [e489]
  exact ⟨rfl, N0, rfl⟩
theorem d_prog_23m15_0 : decode prog_23_method_15_code 0 = .ok (.aload_n 0, 1) := by decide +kernel
theorem d_prog_23m15_1 : decode prog_23_method_15_code 1 = .ok (.getfield 26, 3) := by decide +kernel
theorem d_prog_23m15_4 : decode prog_23_method_15_code 4 = .ok (.areturn, 1) := by decide +kernel
def Q_get_withdrawn (Z : State) (zC : Int32) (aE : Addr) (aD : Addr) (aM : Addr) (mO : Addr) (a1 : Addr) (v2 : Value) (h0 : Heap) (v : Option Value) (h : Heap) (L : List Loc) : Prop := v = some v2 ∧ Fr Z.heap.size L ∧ h = h0
theorem rm_get_withdrawn (l : Launch) (Z : State) (a0 : Array Value) (hw : HW a0 Z) (zC : Int32) (SC : tSC Z zC) (PC : ¬ zC = (0 : Int32)) (aE : Addr) (SE : tSE Z aE) (aD : Addr) (SD : tSD Z aD) (aM : Addr) (SM : tSM Z aM) (mO : Addr) (MO : tMO Z mO) (a1 : Addr) (v2 : Value) (h0 : Heap) (O0 : Old Z Z.heap.size h0) (P1 : Fld Z h0 a1 "com/example/quaymark/quaymark/Review" "withdrawn" "Lcom/example/quaymark/quaymark/Review$Withdrawal;" v2) (P2 : v2.isRef = true) :
    Con l Z (⟨"com/example/quaymark/quaymark/Review", "withdrawn", "()Lcom/example/quaymark/quaymark/Review$Withdrawal;"⟩ : MethodName) prog_23_method_15_code 1 (some (.object "com/example/quaymark/quaymark/Review$Withdrawal")) ({ frames := 0, cells := 0, slots := 0, locals := 0 } : Room) #[(.ref a1)] h0 (Q_get_withdrawn Z zC aE aD aM mO a1 v2 h0) := by
  refine Con.intro (plainFor_of_name pn15) ?_
  intro p e s m below meth c T0 X0 hx hby hml hown0 hnm hret hlk hZ0 e0
  have N0 := Fr.nil Z.heap.size
  refine castGo (g' := mkF m 0 #[.val (.ref a1)] []) (by first | rfl | (simp [entryFrame, mkF, argsToLocals, Value.category]; done)) ?_
  show Go _ _ _ _ (T0.setTop (mkF m 0 #[.val (.ref a1)] []))
  refine aL X0 hx (hb hby d_prog_23m15_0) (q := 1) rfl rfl rfl ?_
  refine g_getF X0 hx hZ0 hown0 (host := "") (Or.inl (wd114 hw)) Via.refl P1 e0 (hb hby d_prog_23m15_1) (q := 4) rfl ?_
  intro T490 X490 e490
  refine endP X490 hlk (fun h => by rw [hret] at h; cases h) (lastA X490 hx hret rfl (own_nref P2) P2 (hb hby d_prog_23m15_4)) ?_ (by decide) (by decide)
  rw [e490]
  exact ⟨rfl, N0, rfl⟩
theorem own_c (x : Int32) : (x &&& 3) % 3 = 0 ∨ (x &&& 3) % 3 = 1 ∨ (x &&& 3) % 3 = 2 := by
  have h := c_mask x 3 2 (by decide) (by decide)
  have h2 := (c_irem (x &&& 3) 3 3 (by decide)).1
  have h3 : (2 ^ 2 : Nat) = 4 := by decide
  rw [h3] at h
  have h4 := h2 (by omega)
  have c0 : (0 : Int32).toInt = 0 := by decide
  have c1 : (1 : Int32).toInt = 1 := by decide
  have c2 : (2 : Int32).toInt = 2 := by decide
  simp only [← Int32.toInt_inj, c0, c1, c2]
  omega
theorem wd0 {a0 : Array Value} {Z : State} (hw : HW a0 Z) : ((Jvm.Cond.classLink "com/example/quaymark/quaymark/ReviewWithdrawingPinLaw" (7 : Nat) "java/lang/String") : Jvm.Cond).before a0 Z = true := hw _ (List.mem_of_getElem? (i := 0) rfl)
theorem wd1 {a0 : Array Value} {Z : State} (hw : HW a0 Z) : ((Jvm.Cond.instantiable "java/lang/String" (4 : Nat)) : Jvm.Cond).before a0 Z = true := hw _ (List.mem_of_getElem? (i := 1) rfl)
theorem wd2 {a0 : Array Value} {Z : State} (hw : HW a0 Z) : ((Jvm.Cond.initialized "java/lang/String") : Jvm.Cond).before a0 Z = true := hw _ (List.mem_of_getElem? (i := 2) rfl)
theorem wd27 {a0 : Array Value} {Z : State} (hw : HW a0 Z) : ((Jvm.Cond.laysFinal "java/lang/String" "java/lang/String" "coder" "B") : Jvm.Cond).before a0 Z = true := hw _ (List.mem_of_getElem? (i := 27) rfl)
theorem wd29 {a0 : Array Value} {Z : State} (hw : HW a0 Z) : ((Jvm.Cond.laysFinal "java/lang/String" "java/lang/String" "value" "[B") : Jvm.Cond).before a0 Z = true := hw _ (List.mem_of_getElem? (i := 29) rfl)
theorem wd3 {a0 : Array Value} {Z : State} (hw : HW a0 Z) : ((Jvm.Cond.arrayClass Jvm.ClassFile.FieldType.char) : Jvm.Cond).before a0 Z = true := hw _ (List.mem_of_getElem? (i := 3) rfl)
theorem wd6 {a0 : Array Value} {Z : State} (hw : HW a0 Z) : ((Jvm.Cond.code ({ cls := "java/lang/String", name := "<init>", desc := "([C)V" } : Jvm.MethodName) jdk_42_method_3_code (2 : Nat) (Option.none : Option Jvm.ClassFile.FieldType)) : Jvm.Cond).before a0 Z = true := hw _ (List.mem_of_getElem? (i := 6) rfl)
theorem pd15 : parseMethodDescriptor "([C)V" = some ⟨[(.array .char)], none⟩ := by decide +kernel
theorem wd4 {a0 : Array Value} {Z : State} (hw : HW a0 Z) : ((Jvm.Cond.methodLink "com/example/quaymark/quaymark/ReviewWithdrawingPinLaw" (9 : Nat) ({ cls := "java/lang/String", name := "<init>", desc := "([C)V" } : Jvm.MethodName)) : Jvm.Cond).before a0 Z = true := hw _ (List.mem_of_getElem? (i := 4) rfl)
theorem wd5 {a0 : Array Value} {Z : State} (hw : HW a0 Z) : ((Jvm.Cond.instanceMethod ({ cls := "java/lang/String", name := "<init>", desc := "([C)V" } : Jvm.MethodName)) : Jvm.Cond).before a0 Z = true := hw _ (List.mem_of_getElem? (i := 5) rfl)
theorem wd30 {a0 : Array Value} {Z : State} (hw : HW a0 Z) : ((Jvm.Cond.classLink "com/example/quaymark/quaymark/ReviewWithdrawingPinLaw" (12 : Nat) "com/example/quaymark/quaymark/Review$LeftOut") : Jvm.Cond).before a0 Z = true := hw _ (List.mem_of_getElem? (i := 30) rfl)
theorem wd32 {a0 : Array Value} {Z : State} (hw : HW a0 Z) : ((Jvm.Cond.initialized "com/example/quaymark/quaymark/Review$LeftOut") : Jvm.Cond).before a0 Z = true := hw _ (List.mem_of_getElem? (i := 32) rfl)
theorem wd35 {a0 : Array Value} {Z : State} (hw : HW a0 Z) : ((Jvm.Cond.code ({ cls := "com/example/quaymark/quaymark/Review$LeftOut", name := "<init>", desc := "(ILjava/lang/String;Ljava/lang/String;)V" } : Jvm.MethodName) prog_24_method_1_code (4 : Nat) (Option.none : Option Jvm.ClassFile.FieldType)) : Jvm.Cond).before a0 Z = true := hw _ (List.mem_of_getElem? (i := 35) rfl)
theorem pd16 : parseMethodDescriptor "(ILjava/lang/String;Ljava/lang/String;)V" = some ⟨[.int, (.object "java/lang/String"), (.object "java/lang/String")], none⟩ := by decide +kernel
theorem wd33 {a0 : Array Value} {Z : State} (hw : HW a0 Z) : ((Jvm.Cond.methodLink "com/example/quaymark/quaymark/ReviewWithdrawingPinLaw" (14 : Nat) ({ cls := "com/example/quaymark/quaymark/Review$LeftOut", name := "<init>", desc := "(ILjava/lang/String;Ljava/lang/String;)V" } : Jvm.MethodName)) : Jvm.Cond).before a0 Z = true := hw _ (List.mem_of_getElem? (i := 33) rfl)
theorem wd34 {a0 : Array Value} {Z : State} (hw : HW a0 Z) : ((Jvm.Cond.instanceMethod ({ cls := "com/example/quaymark/quaymark/Review$LeftOut", name := "<init>", desc := "(ILjava/lang/String;Ljava/lang/String;)V" } : Jvm.MethodName)) : Jvm.Cond).before a0 Z = true := hw _ (List.mem_of_getElem? (i := 34) rfl)
theorem wd48 {a0 : Array Value} {Z : State} (hw : HW a0 Z) : ((Jvm.Cond.classLink "com/example/quaymark/quaymark/ReviewWithdrawingPinLaw" (17 : Nat) "java/util/ArrayList") : Jvm.Cond).before a0 Z = true := hw _ (List.mem_of_getElem? (i := 48) rfl)
theorem wd53 {a0 : Array Value} {Z : State} (hw : HW a0 Z) : ((Jvm.Cond.code ({ cls := "java/util/ArrayList", name := "<init>", desc := "()V" } : Jvm.MethodName) jdk_38_method_2_code (1 : Nat) (Option.none : Option Jvm.ClassFile.FieldType)) : Jvm.Cond).before a0 Z = true := hw _ (List.mem_of_getElem? (i := 53) rfl)
theorem wd51 {a0 : Array Value} {Z : State} (hw : HW a0 Z) : ((Jvm.Cond.methodLink "com/example/quaymark/quaymark/ReviewWithdrawingPinLaw" (19 : Nat) ({ cls := "java/util/ArrayList", name := "<init>", desc := "()V" } : Jvm.MethodName)) : Jvm.Cond).before a0 Z = true := hw _ (List.mem_of_getElem? (i := 51) rfl)
theorem wd52 {a0 : Array Value} {Z : State} (hw : HW a0 Z) : ((Jvm.Cond.instanceMethod ({ cls := "java/util/ArrayList", name := "<init>", desc := "()V" } : Jvm.MethodName)) : Jvm.Cond).before a0 Z = true := hw _ (List.mem_of_getElem? (i := 52) rfl)
theorem wd162 {a0 : Array Value} {Z : State} (hw : HW a0 Z) : ((Jvm.Cond.classLink "com/example/quaymark/quaymark/ReviewWithdrawingPinLaw" (26 : Nat) "com/example/quaymark/quaymark/Review$Withdrawal") : Jvm.Cond).before a0 Z = true := hw _ (List.mem_of_getElem? (i := 162) rfl)
theorem wd164 {a0 : Array Value} {Z : State} (hw : HW a0 Z) : ((Jvm.Cond.initialized "com/example/quaymark/quaymark/Review$Withdrawal") : Jvm.Cond).before a0 Z = true := hw _ (List.mem_of_getElem? (i := 164) rfl)
theorem wd167 {a0 : Array Value} {Z : State} (hw : HW a0 Z) : ((Jvm.Cond.code ({ cls := "com/example/quaymark/quaymark/Review$Withdrawal", name := "<init>", desc := "(Ljava/lang/String;Ljava/lang/String;)V" } : Jvm.MethodName) prog_25_method_1_code (3 : Nat) (Option.none : Option Jvm.ClassFile.FieldType)) : Jvm.Cond).before a0 Z = true := hw _ (List.mem_of_getElem? (i := 167) rfl)
theorem pd17 : parseMethodDescriptor "(Ljava/lang/String;Ljava/lang/String;)V" = some ⟨[(.object "java/lang/String"), (.object "java/lang/String")], none⟩ := by decide +kernel
theorem wd165 {a0 : Array Value} {Z : State} (hw : HW a0 Z) : ((Jvm.Cond.methodLink "com/example/quaymark/quaymark/ReviewWithdrawingPinLaw" (28 : Nat) ({ cls := "com/example/quaymark/quaymark/Review$Withdrawal", name := "<init>", desc := "(Ljava/lang/String;Ljava/lang/String;)V" } : Jvm.MethodName)) : Jvm.Cond).before a0 Z = true := hw _ (List.mem_of_getElem? (i := 165) rfl)
theorem wd166 {a0 : Array Value} {Z : State} (hw : HW a0 Z) : ((Jvm.Cond.instanceMethod ({ cls := "com/example/quaymark/quaymark/Review$Withdrawal", name := "<init>", desc := "(Ljava/lang/String;Ljava/lang/String;)V" } : Jvm.MethodName)) : Jvm.Cond).before a0 Z = true := hw _ (List.mem_of_getElem? (i := 166) rfl)
theorem wd72 {a0 : Array Value} {Z : State} (hw : HW a0 Z) : ((Jvm.Cond.classLink "com/example/quaymark/quaymark/ReviewWithdrawingPinLaw" (31 : Nat) "com/example/quaymark/quaymark/Review") : Jvm.Cond).before a0 Z = true := hw _ (List.mem_of_getElem? (i := 72) rfl)
theorem wd75 {a0 : Array Value} {Z : State} (hw : HW a0 Z) : ((Jvm.Cond.methodLink "com/example/quaymark/quaymark/ReviewWithdrawingPinLaw" (33 : Nat) ({ cls := "com/example/quaymark/quaymark/Review", name := "<init>", desc := "(Ljava/lang/String;Ljava/util/List;Ljava/lang/String;Lcom/example/quaymark/quaymark/Review$Withdrawal;)V" } : Jvm.MethodName)) : Jvm.Cond).before a0 Z = true := hw _ (List.mem_of_getElem? (i := 75) rfl)
theorem wd120 {a0 : Array Value} {Z : State} (hw : HW a0 Z) : ((Jvm.Cond.code ({ cls := "com/example/quaymark/quaymark/Review", name := "withdrawing", desc := "(Lcom/example/quaymark/quaymark/Review$Withdrawal;)Lcom/example/quaymark/quaymark/Review;" } : Jvm.MethodName) prog_23_method_5_code (2 : Nat) (Option.some (Jvm.ClassFile.FieldType.object "com/example/quaymark/quaymark/Review"))) : Jvm.Cond).before a0 Z = true := hw _ (List.mem_of_getElem? (i := 120) rfl)
theorem pd18 : parseMethodDescriptor "(Lcom/example/quaymark/quaymark/Review$Withdrawal;)Lcom/example/quaymark/quaymark/Review;" = some ⟨[(.object "com/example/quaymark/quaymark/Review$Withdrawal")], some (.object "com/example/quaymark/quaymark/Review")⟩ := by decide +kernel
theorem wd119 {a0 : Array Value} {Z : State} (hw : HW a0 Z) : ((Jvm.Cond.selects "com/example/quaymark/quaymark/Review" ({ cls := "com/example/quaymark/quaymark/Review", name := "withdrawing", desc := "(Lcom/example/quaymark/quaymark/Review$Withdrawal;)Lcom/example/quaymark/quaymark/Review;" } : Jvm.MethodName) ({ cls := "com/example/quaymark/quaymark/Review", name := "withdrawing", desc := "(Lcom/example/quaymark/quaymark/Review$Withdrawal;)Lcom/example/quaymark/quaymark/Review;" } : Jvm.MethodName)) : Jvm.Cond).before a0 Z = true := hw _ (List.mem_of_getElem? (i := 119) rfl)
theorem wd116 {a0 : Array Value} {Z : State} (hw : HW a0 Z) : ((Jvm.Cond.methodLink "com/example/quaymark/quaymark/ReviewWithdrawingPinLaw" (36 : Nat) ({ cls := "com/example/quaymark/quaymark/Review", name := "withdrawing", desc := "(Lcom/example/quaymark/quaymark/Review$Withdrawal;)Lcom/example/quaymark/quaymark/Review;" } : Jvm.MethodName)) : Jvm.Cond).before a0 Z = true := hw _ (List.mem_of_getElem? (i := 116) rfl)
theorem wd117 {a0 : Array Value} {Z : State} (hw : HW a0 Z) : ((Jvm.Cond.declares ({ cls := "com/example/quaymark/quaymark/Review", name := "withdrawing", desc := "(Lcom/example/quaymark/quaymark/Review$Withdrawal;)Lcom/example/quaymark/quaymark/Review;" } : Jvm.MethodName)) : Jvm.Cond).before a0 Z = true := hw _ (List.mem_of_getElem? (i := 117) rfl)
theorem wd118 {a0 : Array Value} {Z : State} (hw : HW a0 Z) : ((Jvm.Cond.instanceMethod ({ cls := "com/example/quaymark/quaymark/Review", name := "withdrawing", desc := "(Lcom/example/quaymark/quaymark/Review$Withdrawal;)Lcom/example/quaymark/quaymark/Review;" } : Jvm.MethodName)) : Jvm.Cond).before a0 Z = true := hw _ (List.mem_of_getElem? (i := 118) rfl)
theorem wd135 {a0 : Array Value} {Z : State} (hw : HW a0 Z) : ((Jvm.Cond.code ({ cls := "com/example/quaymark/quaymark/Review", name := "leftOut", desc := "()Ljava/util/List;" } : Jvm.MethodName) prog_23_method_13_code (1 : Nat) (Option.some (Jvm.ClassFile.FieldType.object "java/util/List"))) : Jvm.Cond).before a0 Z = true := hw _ (List.mem_of_getElem? (i := 135) rfl)
theorem wd134 {a0 : Array Value} {Z : State} (hw : HW a0 Z) : ((Jvm.Cond.selects "com/example/quaymark/quaymark/Review" ({ cls := "com/example/quaymark/quaymark/Review", name := "leftOut", desc := "()Ljava/util/List;" } : Jvm.MethodName) ({ cls := "com/example/quaymark/quaymark/Review", name := "leftOut", desc := "()Ljava/util/List;" } : Jvm.MethodName)) : Jvm.Cond).before a0 Z = true := hw _ (List.mem_of_getElem? (i := 134) rfl)
theorem wd131 {a0 : Array Value} {Z : State} (hw : HW a0 Z) : ((Jvm.Cond.methodLink "com/example/quaymark/quaymark/ReviewWithdrawingPinLaw" (40 : Nat) ({ cls := "com/example/quaymark/quaymark/Review", name := "leftOut", desc := "()Ljava/util/List;" } : Jvm.MethodName)) : Jvm.Cond).before a0 Z = true := hw _ (List.mem_of_getElem? (i := 131) rfl)
theorem wd132 {a0 : Array Value} {Z : State} (hw : HW a0 Z) : ((Jvm.Cond.declares ({ cls := "com/example/quaymark/quaymark/Review", name := "leftOut", desc := "()Ljava/util/List;" } : Jvm.MethodName)) : Jvm.Cond).before a0 Z = true := hw _ (List.mem_of_getElem? (i := 132) rfl)
theorem wd133 {a0 : Array Value} {Z : State} (hw : HW a0 Z) : ((Jvm.Cond.instanceMethod ({ cls := "com/example/quaymark/quaymark/Review", name := "leftOut", desc := "()Ljava/util/List;" } : Jvm.MethodName)) : Jvm.Cond).before a0 Z = true := hw _ (List.mem_of_getElem? (i := 133) rfl)
theorem wd144 {a0 : Array Value} {Z : State} (hw : HW a0 Z) : ((Jvm.Cond.code ({ cls := "java/util/ImmutableCollections$ListN", name := "size", desc := "()I" } : Jvm.MethodName) jdk_45_method_3_code (1 : Nat) (Option.some Jvm.ClassFile.FieldType.int)) : Jvm.Cond).before a0 Z = true := hw _ (List.mem_of_getElem? (i := 144) rfl)
theorem wd143 {a0 : Array Value} {Z : State} (hw : HW a0 Z) : ((Jvm.Cond.initialized "java/util/ImmutableCollections$ListN") : Jvm.Cond).before a0 Z = true := hw _ (List.mem_of_getElem? (i := 143) rfl)
theorem pd19 : parseMethodDescriptor "()I" = some ⟨[], some .int⟩ := by decide +kernel
theorem wd136 {a0 : Array Value} {Z : State} (hw : HW a0 Z) : ((Jvm.Cond.methodLink "com/example/quaymark/quaymark/ReviewWithdrawingPinLaw" (44 : Nat) ({ cls := "java/util/List", name := "size", desc := "()I" } : Jvm.MethodName)) : Jvm.Cond).before a0 Z = true := hw _ (List.mem_of_getElem? (i := 136) rfl)
theorem wd137 {a0 : Array Value} {Z : State} (hw : HW a0 Z) : ((Jvm.Cond.declares ({ cls := "java/util/List", name := "size", desc := "()I" } : Jvm.MethodName)) : Jvm.Cond).before a0 Z = true := hw _ (List.mem_of_getElem? (i := 137) rfl)
theorem wd138 {a0 : Array Value} {Z : State} (hw : HW a0 Z) : ((Jvm.Cond.interfaceMethod "java/util/List" "java/util/List" "size" "()I") : Jvm.Cond).before a0 Z = true := hw _ (List.mem_of_getElem? (i := 138) rfl)
theorem wd139 {a0 : Array Value} {Z : State} (hw : HW a0 Z) : ((Jvm.Cond.selects "java/util/ImmutableCollections$ListN" ({ cls := "java/util/List", name := "size", desc := "()I" } : Jvm.MethodName) ({ cls := "java/util/ImmutableCollections$ListN", name := "size", desc := "()I" } : Jvm.MethodName)) : Jvm.Cond).before a0 Z = true := hw _ (List.mem_of_getElem? (i := 139) rfl)
theorem wd140 {a0 : Array Value} {Z : State} (hw : HW a0 Z) : ((Jvm.Cond.instanceMethod ({ cls := "java/util/ImmutableCollections$ListN", name := "size", desc := "()I" } : Jvm.MethodName)) : Jvm.Cond).before a0 Z = true := hw _ (List.mem_of_getElem? (i := 140) rfl)
theorem wd141 {a0 : Array Value} {Z : State} (hw : HW a0 Z) : ((Jvm.Cond.publicMethod ({ cls := "java/util/ImmutableCollections$ListN", name := "size", desc := "()I" } : Jvm.MethodName)) : Jvm.Cond).before a0 Z = true := hw _ (List.mem_of_getElem? (i := 141) rfl)
theorem wd142 {a0 : Array Value} {Z : State} (hw : HW a0 Z) : ((Jvm.Cond.unhidden "java/util/ImmutableCollections$ListN" "size" "()I") : Jvm.Cond).before a0 Z = true := hw _ (List.mem_of_getElem? (i := 142) rfl)
theorem wd151 {a0 : Array Value} {Z : State} (hw : HW a0 Z) : ((Jvm.Cond.code ({ cls := "com/example/quaymark/quaymark/Review", name := "submittedBy", desc := "()Ljava/lang/String;" } : Jvm.MethodName) prog_23_method_12_code (1 : Nat) (Option.some (Jvm.ClassFile.FieldType.object "java/lang/String"))) : Jvm.Cond).before a0 Z = true := hw _ (List.mem_of_getElem? (i := 151) rfl)
theorem pd20 : parseMethodDescriptor "()Ljava/lang/String;" = some ⟨[], some (.object "java/lang/String")⟩ := by decide +kernel
theorem wd150 {a0 : Array Value} {Z : State} (hw : HW a0 Z) : ((Jvm.Cond.selects "com/example/quaymark/quaymark/Review" ({ cls := "com/example/quaymark/quaymark/Review", name := "submittedBy", desc := "()Ljava/lang/String;" } : Jvm.MethodName) ({ cls := "com/example/quaymark/quaymark/Review", name := "submittedBy", desc := "()Ljava/lang/String;" } : Jvm.MethodName)) : Jvm.Cond).before a0 Z = true := hw _ (List.mem_of_getElem? (i := 150) rfl)
theorem wd147 {a0 : Array Value} {Z : State} (hw : HW a0 Z) : ((Jvm.Cond.methodLink "com/example/quaymark/quaymark/ReviewWithdrawingPinLaw" (52 : Nat) ({ cls := "com/example/quaymark/quaymark/Review", name := "submittedBy", desc := "()Ljava/lang/String;" } : Jvm.MethodName)) : Jvm.Cond).before a0 Z = true := hw _ (List.mem_of_getElem? (i := 147) rfl)
theorem wd148 {a0 : Array Value} {Z : State} (hw : HW a0 Z) : ((Jvm.Cond.declares ({ cls := "com/example/quaymark/quaymark/Review", name := "submittedBy", desc := "()Ljava/lang/String;" } : Jvm.MethodName)) : Jvm.Cond).before a0 Z = true := hw _ (List.mem_of_getElem? (i := 148) rfl)
theorem wd149 {a0 : Array Value} {Z : State} (hw : HW a0 Z) : ((Jvm.Cond.instanceMethod ({ cls := "com/example/quaymark/quaymark/Review", name := "submittedBy", desc := "()Ljava/lang/String;" } : Jvm.MethodName)) : Jvm.Cond).before a0 Z = true := hw _ (List.mem_of_getElem? (i := 149) rfl)
theorem wd156 {a0 : Array Value} {Z : State} (hw : HW a0 Z) : ((Jvm.Cond.code ({ cls := "com/example/quaymark/quaymark/Review", name := "signedOffBy", desc := "()Ljava/lang/String;" } : Jvm.MethodName) prog_23_method_14_code (1 : Nat) (Option.some (Jvm.ClassFile.FieldType.object "java/lang/String"))) : Jvm.Cond).before a0 Z = true := hw _ (List.mem_of_getElem? (i := 156) rfl)
theorem wd155 {a0 : Array Value} {Z : State} (hw : HW a0 Z) : ((Jvm.Cond.selects "com/example/quaymark/quaymark/Review" ({ cls := "com/example/quaymark/quaymark/Review", name := "signedOffBy", desc := "()Ljava/lang/String;" } : Jvm.MethodName) ({ cls := "com/example/quaymark/quaymark/Review", name := "signedOffBy", desc := "()Ljava/lang/String;" } : Jvm.MethodName)) : Jvm.Cond).before a0 Z = true := hw _ (List.mem_of_getElem? (i := 155) rfl)
theorem wd152 {a0 : Array Value} {Z : State} (hw : HW a0 Z) : ((Jvm.Cond.methodLink "com/example/quaymark/quaymark/ReviewWithdrawingPinLaw" (56 : Nat) ({ cls := "com/example/quaymark/quaymark/Review", name := "signedOffBy", desc := "()Ljava/lang/String;" } : Jvm.MethodName)) : Jvm.Cond).before a0 Z = true := hw _ (List.mem_of_getElem? (i := 152) rfl)
theorem wd153 {a0 : Array Value} {Z : State} (hw : HW a0 Z) : ((Jvm.Cond.declares ({ cls := "com/example/quaymark/quaymark/Review", name := "signedOffBy", desc := "()Ljava/lang/String;" } : Jvm.MethodName)) : Jvm.Cond).before a0 Z = true := hw _ (List.mem_of_getElem? (i := 153) rfl)
theorem wd154 {a0 : Array Value} {Z : State} (hw : HW a0 Z) : ((Jvm.Cond.instanceMethod ({ cls := "com/example/quaymark/quaymark/Review", name := "signedOffBy", desc := "()Ljava/lang/String;" } : Jvm.MethodName)) : Jvm.Cond).before a0 Z = true := hw _ (List.mem_of_getElem? (i := 154) rfl)
theorem wd161 {a0 : Array Value} {Z : State} (hw : HW a0 Z) : ((Jvm.Cond.code ({ cls := "com/example/quaymark/quaymark/Review", name := "withdrawn", desc := "()Lcom/example/quaymark/quaymark/Review$Withdrawal;" } : Jvm.MethodName) prog_23_method_15_code (1 : Nat) (Option.some (Jvm.ClassFile.FieldType.object "com/example/quaymark/quaymark/Review$Withdrawal"))) : Jvm.Cond).before a0 Z = true := hw _ (List.mem_of_getElem? (i := 161) rfl)
theorem pd21 : parseMethodDescriptor "()Lcom/example/quaymark/quaymark/Review$Withdrawal;" = some ⟨[], some (.object "com/example/quaymark/quaymark/Review$Withdrawal")⟩ := by decide +kernel
theorem wd160 {a0 : Array Value} {Z : State} (hw : HW a0 Z) : ((Jvm.Cond.selects "com/example/quaymark/quaymark/Review" ({ cls := "com/example/quaymark/quaymark/Review", name := "withdrawn", desc := "()Lcom/example/quaymark/quaymark/Review$Withdrawal;" } : Jvm.MethodName) ({ cls := "com/example/quaymark/quaymark/Review", name := "withdrawn", desc := "()Lcom/example/quaymark/quaymark/Review$Withdrawal;" } : Jvm.MethodName)) : Jvm.Cond).before a0 Z = true := hw _ (List.mem_of_getElem? (i := 160) rfl)
theorem wd157 {a0 : Array Value} {Z : State} (hw : HW a0 Z) : ((Jvm.Cond.methodLink "com/example/quaymark/quaymark/ReviewWithdrawingPinLaw" (59 : Nat) ({ cls := "com/example/quaymark/quaymark/Review", name := "withdrawn", desc := "()Lcom/example/quaymark/quaymark/Review$Withdrawal;" } : Jvm.MethodName)) : Jvm.Cond).before a0 Z = true := hw _ (List.mem_of_getElem? (i := 157) rfl)
theorem wd158 {a0 : Array Value} {Z : State} (hw : HW a0 Z) : ((Jvm.Cond.declares ({ cls := "com/example/quaymark/quaymark/Review", name := "withdrawn", desc := "()Lcom/example/quaymark/quaymark/Review$Withdrawal;" } : Jvm.MethodName)) : Jvm.Cond).before a0 Z = true := hw _ (List.mem_of_getElem? (i := 158) rfl)
theorem wd159 {a0 : Array Value} {Z : State} (hw : HW a0 Z) : ((Jvm.Cond.instanceMethod ({ cls := "com/example/quaymark/quaymark/Review", name := "withdrawn", desc := "()Lcom/example/quaymark/quaymark/Review$Withdrawal;" } : Jvm.MethodName)) : Jvm.Cond).before a0 Z = true := hw _ (List.mem_of_getElem? (i := 159) rfl)
theorem wd181 {a0 : Array Value} {Z : State} (hw : HW a0 Z) : ((Jvm.Cond.code ({ cls := "java/util/ArrayList", name := "add", desc := "(Ljava/lang/Object;)Z" } : Jvm.MethodName) jdk_38_method_25_code (2 : Nat) (Option.some Jvm.ClassFile.FieldType.boolean)) : Jvm.Cond).before a0 Z = true := hw _ (List.mem_of_getElem? (i := 181) rfl)
theorem pd22 : parseMethodDescriptor "(Ljava/lang/Object;)Z" = some ⟨[(.object "java/lang/Object")], some .boolean⟩ := by decide +kernel
theorem wd173 {a0 : Array Value} {Z : State} (hw : HW a0 Z) : ((Jvm.Cond.methodLink "com/example/quaymark/quaymark/ReviewWithdrawingPinLaw" (20 : Nat) ({ cls := "java/util/List", name := "add", desc := "(Ljava/lang/Object;)Z" } : Jvm.MethodName)) : Jvm.Cond).before a0 Z = true := hw _ (List.mem_of_getElem? (i := 173) rfl)
theorem wd174 {a0 : Array Value} {Z : State} (hw : HW a0 Z) : ((Jvm.Cond.declares ({ cls := "java/util/List", name := "add", desc := "(Ljava/lang/Object;)Z" } : Jvm.MethodName)) : Jvm.Cond).before a0 Z = true := hw _ (List.mem_of_getElem? (i := 174) rfl)
theorem wd175 {a0 : Array Value} {Z : State} (hw : HW a0 Z) : ((Jvm.Cond.interfaceMethod "java/util/List" "java/util/List" "add" "(Ljava/lang/Object;)Z") : Jvm.Cond).before a0 Z = true := hw _ (List.mem_of_getElem? (i := 175) rfl)
theorem wd176 {a0 : Array Value} {Z : State} (hw : HW a0 Z) : ((Jvm.Cond.selects "java/util/ArrayList" ({ cls := "java/util/List", name := "add", desc := "(Ljava/lang/Object;)Z" } : Jvm.MethodName) ({ cls := "java/util/ArrayList", name := "add", desc := "(Ljava/lang/Object;)Z" } : Jvm.MethodName)) : Jvm.Cond).before a0 Z = true := hw _ (List.mem_of_getElem? (i := 176) rfl)
theorem wd177 {a0 : Array Value} {Z : State} (hw : HW a0 Z) : ((Jvm.Cond.instanceMethod ({ cls := "java/util/ArrayList", name := "add", desc := "(Ljava/lang/Object;)Z" } : Jvm.MethodName)) : Jvm.Cond).before a0 Z = true := hw _ (List.mem_of_getElem? (i := 177) rfl)
theorem wd178 {a0 : Array Value} {Z : State} (hw : HW a0 Z) : ((Jvm.Cond.publicMethod ({ cls := "java/util/ArrayList", name := "add", desc := "(Ljava/lang/Object;)Z" } : Jvm.MethodName)) : Jvm.Cond).before a0 Z = true := hw _ (List.mem_of_getElem? (i := 178) rfl)
theorem wd179 {a0 : Array Value} {Z : State} (hw : HW a0 Z) : ((Jvm.Cond.unhidden "java/util/ArrayList" "add" "(Ljava/lang/Object;)Z") : Jvm.Cond).before a0 Z = true := hw _ (List.mem_of_getElem? (i := 179) rfl)
theorem wd180 {a0 : Array Value} {Z : State} (hw : HW a0 Z) : ((Jvm.Cond.castable "java/util/ArrayList" "java/util/List") : Jvm.Cond).before a0 Z = true := hw _ (List.mem_of_getElem? (i := 180) rfl)
theorem wd273 {a0 : Array Value} {Z : State} (hw : HW a0 Z) : ((Jvm.Cond.code ({ cls := "java/util/ImmutableCollections$List12", name := "size", desc := "()I" } : Jvm.MethodName) jdk_44_method_3_code (1 : Nat) (Option.some Jvm.ClassFile.FieldType.int)) : Jvm.Cond).before a0 Z = true := hw _ (List.mem_of_getElem? (i := 273) rfl)
theorem wd269 {a0 : Array Value} {Z : State} (hw : HW a0 Z) : ((Jvm.Cond.selects "java/util/ImmutableCollections$List12" ({ cls := "java/util/List", name := "size", desc := "()I" } : Jvm.MethodName) ({ cls := "java/util/ImmutableCollections$List12", name := "size", desc := "()I" } : Jvm.MethodName)) : Jvm.Cond).before a0 Z = true := hw _ (List.mem_of_getElem? (i := 269) rfl)
theorem wd270 {a0 : Array Value} {Z : State} (hw : HW a0 Z) : ((Jvm.Cond.instanceMethod ({ cls := "java/util/ImmutableCollections$List12", name := "size", desc := "()I" } : Jvm.MethodName)) : Jvm.Cond).before a0 Z = true := hw _ (List.mem_of_getElem? (i := 270) rfl)
theorem wd271 {a0 : Array Value} {Z : State} (hw : HW a0 Z) : ((Jvm.Cond.publicMethod ({ cls := "java/util/ImmutableCollections$List12", name := "size", desc := "()I" } : Jvm.MethodName)) : Jvm.Cond).before a0 Z = true := hw _ (List.mem_of_getElem? (i := 271) rfl)
theorem wd272 {a0 : Array Value} {Z : State} (hw : HW a0 Z) : ((Jvm.Cond.unhidden "java/util/ImmutableCollections$List12" "size" "()I") : Jvm.Cond).before a0 Z = true := hw _ (List.mem_of_getElem? (i := 272) rfl)
theorem wd282 {a0 : Array Value} {Z : State} (hw : HW a0 Z) : ((Jvm.Cond.code ({ cls := "java/util/ImmutableCollections$List12", name := "get", desc := "(I)Ljava/lang/Object;" } : Jvm.MethodName) jdk_44_method_5_code (2 : Nat) (Option.some (Jvm.ClassFile.FieldType.object "java/lang/Object"))) : Jvm.Cond).before a0 Z = true := hw _ (List.mem_of_getElem? (i := 282) rfl)
theorem pd23 : parseMethodDescriptor "(I)Ljava/lang/Object;" = some ⟨[.int], some (.object "java/lang/Object")⟩ := by decide +kernel
theorem wd275 {a0 : Array Value} {Z : State} (hw : HW a0 Z) : ((Jvm.Cond.methodLink "com/example/quaymark/quaymark/ReviewWithdrawingPinLaw" (48 : Nat) ({ cls := "java/util/List", name := "get", desc := "(I)Ljava/lang/Object;" } : Jvm.MethodName)) : Jvm.Cond).before a0 Z = true := hw _ (List.mem_of_getElem? (i := 275) rfl)
theorem wd276 {a0 : Array Value} {Z : State} (hw : HW a0 Z) : ((Jvm.Cond.declares ({ cls := "java/util/List", name := "get", desc := "(I)Ljava/lang/Object;" } : Jvm.MethodName)) : Jvm.Cond).before a0 Z = true := hw _ (List.mem_of_getElem? (i := 276) rfl)
theorem wd277 {a0 : Array Value} {Z : State} (hw : HW a0 Z) : ((Jvm.Cond.interfaceMethod "java/util/List" "java/util/List" "get" "(I)Ljava/lang/Object;") : Jvm.Cond).before a0 Z = true := hw _ (List.mem_of_getElem? (i := 277) rfl)
theorem wd278 {a0 : Array Value} {Z : State} (hw : HW a0 Z) : ((Jvm.Cond.selects "java/util/ImmutableCollections$List12" ({ cls := "java/util/List", name := "get", desc := "(I)Ljava/lang/Object;" } : Jvm.MethodName) ({ cls := "java/util/ImmutableCollections$List12", name := "get", desc := "(I)Ljava/lang/Object;" } : Jvm.MethodName)) : Jvm.Cond).before a0 Z = true := hw _ (List.mem_of_getElem? (i := 278) rfl)
theorem wd279 {a0 : Array Value} {Z : State} (hw : HW a0 Z) : ((Jvm.Cond.instanceMethod ({ cls := "java/util/ImmutableCollections$List12", name := "get", desc := "(I)Ljava/lang/Object;" } : Jvm.MethodName)) : Jvm.Cond).before a0 Z = true := hw _ (List.mem_of_getElem? (i := 279) rfl)
theorem wd280 {a0 : Array Value} {Z : State} (hw : HW a0 Z) : ((Jvm.Cond.publicMethod ({ cls := "java/util/ImmutableCollections$List12", name := "get", desc := "(I)Ljava/lang/Object;" } : Jvm.MethodName)) : Jvm.Cond).before a0 Z = true := hw _ (List.mem_of_getElem? (i := 280) rfl)
theorem wd281 {a0 : Array Value} {Z : State} (hw : HW a0 Z) : ((Jvm.Cond.unhidden "java/util/ImmutableCollections$List12" "get" "(I)Ljava/lang/Object;") : Jvm.Cond).before a0 Z = true := hw _ (List.mem_of_getElem? (i := 281) rfl)
def Q_law (Z : State) (zC : Int32) (aE : Addr) (aD : Addr) (aM : Addr) (mO : Addr) (p0 : Int32) (p1 : Int32) (p2 : Int32) (p3 : Int32) (p4 : Int32) (p5 : Int32) (eA : Addr) (eK : ClassId) (eL : List Value) (dK : ClassId) (dL : List Value) (h0 : Heap) (v : Option Value) (h : Heap) (L : List Loc) : Prop := v = some (.int (1 : Int32)) ∧ Fr Z.heap.size L ∧ True
theorem pn17 : plainName "com/example/quaymark/quaymark/ReviewWithdrawingPinLaw" = true := by first | (simp [plainName, overriddenIn]; done) | decide +kernel
theorem rm_law (l : Launch) (Z : State) (a0 : Array Value) (hw : HW a0 Z) (zC : Int32) (SC : tSC Z zC) (PC : ¬ zC = (0 : Int32)) (aE : Addr) (SE : tSE Z aE) (aD : Addr) (SD : tSD Z aD) (aM : Addr) (SM : tSM Z aM) (mO : Addr) (MO : tMO Z mO) (p0 : Int32) (p1 : Int32) (p2 : Int32) (p3 : Int32) (p4 : Int32) (p5 : Int32) (eA : Addr) (eK : ClassId) (eL : List Value) (dK : ClassId) (dL : List Value) (h0 : Heap) (O0 : Old Z Z.heap.size h0) (PE1 : Exa Z h0 aE "java/util/ImmutableCollections$ListN") (PE2 : Fld Z h0 aE "java/util/ImmutableCollections$ListN" "elements" "[Ljava/lang/Object;" (.ref eA)) (PE3 : Arv Z h0 eA eK (.object "java/lang/Object") (0 : Int32) eL .null) (PE4 : Fld Z h0 aE "java/util/ImmutableCollections$ListN" "allowNulls" "Z" (.int (0 : Int32))) (PD1 : Exa Z h0 aD "[Ljava/lang/Object;") (PD2 : Arv Z h0 aD dK (.object "java/lang/Object") (0 : Int32) dL .null) (PM1 : Exa Z h0 aM "java/lang/Object") :
    Con l Z (⟨"com/example/quaymark/quaymark/ReviewWithdrawingPinLaw", "law", "(IIIIII)Z"⟩ : MethodName) code 20 (some .boolean) room_1 #[(.int p0), (.int p1), (.int p2), (.int p3), (.int p4), (.int p5)] h0 (Q_law Z zC aE aD aM mO p0 p1 p2 p3 p4 p5 eA eK eL dK dL h0) := by
  refine Con.intro (plainFor_of_name pn17) ?_
  intro p e s m below meth c T0 X0 hx hby hml hown0 hnm hret hlk hZ0 e0
  have N0 := Fr.nil Z.heap.size
  refine castGo (g' := mkF m 0 #[.val (.int p0), .val (.int p1), .val (.int p2), .val (.int p3), .val (.int p4), .val (.int p5), .unset, .unset, .unset, .unset, .unset, .unset, .unset, .unset, .unset, .unset, .unset, .unset, .unset, .unset] []) (by first | rfl | (simp [entryFrame, mkF, argsToLocals, Value.category]; done)) ?_
  show Go _ _ _ _ (T0.setTop (mkF m 0 #[.val (.int p0), .val (.int p1), .val (.int p2), .val (.int p3), .val (.int p4), .val (.int p5), .unset, .unset, .unset, .unset, .unset, .unset, .unset, .unset, .unset, .unset, .unset, .unset, .unset, .unset] []))
  refine g_new X0 hx hZ0 hown0 (wd0 hw) (wd1 hw) (wd2 hw) (by decide) (by decide) e0 (hb hby at_0) (q := 3) rfl ?_
  intro T491 h491 b491 g491 X491 e491 E491 A491 D491
  have F491_27 := D491 (Or.inr (wd27 hw)) (ty := .byte) (by decide)
  have F491_29 := D491 (Or.inr (wd29 hw)) (ty := (.array .byte)) (by decide)
  refine g_dup X491 hx (hb hby at_3) (q := 4) rfl rfl ?_
  refine cI X491 hx (hb hby at_4) (q := 5) rfl (z := (2 : Int32)) rfl ?_
  refine g_newA X491 hx hZ0 (aty := .char) (wd3 hw) (by decide) (n := 2) (by decide) (by decide) (by decide) (by decide) e491 (hb hby at_5) (q := 7) rfl ?_
  intro T492 h492 k492 b492 g492 X492 e492 E492 V492
  have Va492 : Arv Z h492 b492 k492 .char (2 : Int32) [(.int (0 : Int32)), (.int (0 : Int32))] (.int 0) := V492
  refine g_dup X492 hx (hb hby at_7) (q := 8) rfl rfl ?_
  refine cI X492 hx (hb hby at_8) (q := 9) rfl (z := (0 : Int32)) rfl ?_
  refine iL X492 hx (hb hby at_9) (q := 10) rfl rfl ?_
  refine pI X492 hx (hb hby at_10) (q := 13) rfl (z := (255 : Int32)) rfl ?_
  refine g_iand X492 hx (hb hby at_13) (q := 14) rfl rfl ?_
  refine g_i2c X492 hx (hb hby at_14) (q := 15) rfl (z := (chr p0)) rfl ?_
  have f495 : Old Z Z.heap.size h491 := O0.ext E491
  have gz494 : Z.heap.size ≤ b492 := Nat.le_trans f495.2.1 (Nat.le_of_eq g492.symm)
  refine g_stC X492 hx hZ0 Va492 (i := 0) (by decide) (by decide) (by decide) (Nat.le_of_ble_eq_true rfl) (y := (chr p0)) (chr_nar _) e492 (hb hby at_15) (q := 16) rfl ?_
  intro T493 h493 X493 e493 W493 V493
  have N493 := Fr.snoc X493 N0 gz494
  have Va493 : Arv Z h493 b492 k492 .char (2 : Int32) [(.int (chr p0)), (.int (0 : Int32))] (.int 0) := V493
  refine g_dup X493 hx (hb hby at_16) (q := 17) rfl rfl ?_
  refine cI X493 hx (hb hby at_17) (q := 18) rfl (z := (1 : Int32)) rfl ?_
  refine iL X493 hx (hb hby at_18) (q := 19) rfl rfl ?_
  refine bI X493 hx (hb hby at_19) (q := 21) rfl (z := (8 : Int32)) rfl ?_
  refine g_iushr X493 hx (hb hby at_21) (q := 22) rfl rfl ?_
  refine pI X493 hx (hb hby at_22) (q := 25) rfl (z := (255 : Int32)) rfl ?_
  refine g_iand X493 hx (hb hby at_25) (q := 26) rfl rfl ?_
  refine g_i2c X493 hx (hb hby at_26) (q := 27) rfl (z := (chr ((p0.toUInt32 >>> ((8 : Int32) &&& 31).toUInt32).toInt32))) rfl ?_
  refine g_stC X493 hx hZ0 Va493 (i := 1) (by decide) (by decide) (by decide) (Nat.le_of_ble_eq_true rfl) (y := (chr ((p0.toUInt32 >>> ((8 : Int32) &&& 31).toUInt32).toInt32))) (chr_nar _) e493 (hb hby at_27) (q := 28) rfl ?_
  intro T496 h496 X496 e496 W496 V496
  have N496 := Fr.snoc X496 N493 gz494
  have Va496 : Arv Z h496 b492 k492 .char (2 : Int32) [(.int (chr p0)), (.int (chr ((p0.toUInt32 >>> ((8 : Int32) &&& 31).toUInt32).toInt32)))] (.int 0) := V496
  have f498 : Old Z Z.heap.size h492 := f495.ext E492
  have f499 : Old Z Z.heap.size h493 := f498.wr W493 gz494
  have f500 : Old Z Z.heap.size h496 := f499.wr W496 gz494
  have gz501 : Z.heap.size ≤ b491 := Nat.le_trans O0.2.1 (Nat.le_of_eq g491.symm)
  have f502 : Exa Z h492 b491 "java/lang/String" := A491.ext E492
  have f503 : Exa Z h493 b491 "java/lang/String" := f502.wr W493
  have f504 : Exa Z h496 b491 "java/lang/String" := f503.wr W496
  have f505 : Fld Z h492 b491 "java/lang/String" "value" "[B" .null := F491_29.ext E492
  have ne506 : b491 ≠ b492 := (Nat.ne_of_lt (Nat.lt_of_lt_of_le (Nat.lt_of_lt_of_le A491.lt (Nat.le_refl _)) (Nat.le_of_eq g492.symm)))
  have f507 : Fld Z h493 b491 "java/lang/String" "value" "[B" .null := f505.other W493 (Or.inl ne506)
  have f508 : Fld Z h496 b491 "java/lang/String" "value" "[B" .null := f507.other W496 (Or.inl ne506)
  have f509 : Fld Z h492 b491 "java/lang/String" "coder" "B" (.int (0 : Int32)) := F491_27.ext E492
  have f510 : Fld Z h493 b491 "java/lang/String" "coder" "B" (.int (0 : Int32)) := f509.other W493 (Or.inl ne506)
  have f511 : Fld Z h496 b491 "java/lang/String" "coder" "B" (.int (0 : Int32)) := f510.other W496 (Or.inl ne506)
  refine g_sp X496 hx hZ0 hown0 (wd4 hw) (wd5 hw) (wd6 hw) rfl (by decide) e496 (StrChars.Road.backV (W := 1) hZ0 (own_wStr hw) (kI := 4) (wd1 hw) (cs := ([(chr p0), (chr ((p0.toUInt32 >>> ((8 : Int32) &&& 31).toUInt32).toInt32))] : List Int32)) (bs := (([(chr p0), (chr ((p0.toUInt32 >>> ((8 : Int32) &&& 31).toUInt32).toInt32))] : List Int32).map (fun c => c.toInt8.toInt32))) (n := 2) gz501 f500.2.1 f504 f508 f511 Va496 (SC.ext f500.2) PC rfl rfl (by decide) (by decide) (alS (chr_rng _) (alS (chr_rng _) al0)) rfl (by decide) (by decide)) (a := b491) (argsL := [.ref b492]) (W := 1) (nk := 1) (ns := 2) (Qc := StrChars.Road.QV Z b491 (2 : Int32) (([(chr p0), (chr ((p0.toUInt32 >>> ((8 : Int32) &&& 31).toUInt32).toInt32))] : List Int32).map (fun c => c.toInt8.toInt32)) h496 Z.heap.size) (by rw [hml]; rfl) (lenOf pd15 rfl) rfl (Nat.le_of_eq rfl) (hb hby at_28) (q := 31) rfl (by decide) (by decide) ?_
  intro v497 T497 L497 X497 Q497
  obtain ⟨rfl, Nq497, K497q, E497q, C497q, t497, kb497, tz497, tg497, tn497, Fv497, Va497⟩ := Q497
  have N497 := Fr.app N496 Nq497
  show Go _ _ _ _ (T497.setTop (mkF m 31 #[.val (.int p0), .val (.int p1), .val (.int p2), .val (.int p3), .val (.int p4), .val (.int p5), .unset, .unset, .unset, .unset, .unset, .unset, .unset, .unset, .unset, .unset, .unset, .unset, .unset, .unset] [(.ref b491)]))
  refine sAw X497 hx (hb hby at_31) (q := 33) rfl rfl (Ls' := #[.val (.int p0), .val (.int p1), .val (.int p2), .val (.int p3), .val (.int p4), .val (.int p5), .val (.ref b491), .unset, .unset, .unset, .unset, .unset, .unset, .unset, .unset, .unset, .unset, .unset, .unset, .unset]) rfl ?_
  refine iLw X497 hx (hb hby at_33) (q := 35) rfl rfl ?_
  refine cI X497 hx (hb hby at_35) (q := 36) rfl (z := (1 : Int32)) rfl ?_
  refine g_iand X497 hx (hb hby at_36) (q := 37) rfl rfl ?_
  suffices kk512 : ∀ (T512 : State) (h512 : Heap) (L512 : List Loc) (ov512 : Value) , ov512.isRef = true → Stand p l e room_1 s m #[.int p0, .int p1, .int p2, .int p3, .int p4, .int p5] below meth c T512 L512 6 14 → T512.heap = h512 → Keep T497.heap h512 [] → Fr Z.heap.size L512 → Go p.tables e below (PEnd s (Q_law Z zC aE aD aM mO p0 p1 p2 p3 p4 p5 eA eK eL dK dL h0) room_1.cells room_1.slots) (T512.setTop (mkF m 63 #[.val (.int p0), .val (.int p1), .val (.int p2), .val (.int p3), .val (.int p4), .val (.int p5), .val (.ref b491), .unset, .unset, .unset, .unset, .unset, .unset, .unset, .unset, .unset, .unset, .unset, .unset, .unset] [ov512])) by
    by_cases hc513 : (p4 &&& (1 : Int32)) = (0 : Int32)
    · refine ifY X497 hx (hb hby at_37) (q := 62) (by decide) (by decide) ((if0 _ _).trans (teq hc513).1) ?_
      refine cN X497 hx (hb hby at_62) (q := 63) rfl ?_
      exact kk512 _ _ _ .null rfl (X497.more (by decide) (by decide)) rfl (Keep.refl T497.heap []) N497
    · refine ifN X497 hx (hb hby at_37) (q := 40) rfl ((if0 _ _).trans (feq hc513).1) ?_
      refine g_new X497 hx hZ0 hown0 (wd0 hw) (wd1 hw) (wd2 hw) (by decide) (by decide) rfl (hb hby at_40) (q := 43) rfl ?_
      intro T515 h515 b515 g515 X515 e515 E515 A515 D515
      have F515_27 := D515 (Or.inr (wd27 hw)) (ty := .byte) (by decide)
      have F515_29 := D515 (Or.inr (wd29 hw)) (ty := (.array .byte)) (by decide)
      refine g_dup X515 hx (hb hby at_43) (q := 44) rfl rfl ?_
      refine cI X515 hx (hb hby at_44) (q := 45) rfl (z := (1 : Int32)) rfl ?_
      refine g_newA X515 hx hZ0 (aty := .char) (wd3 hw) (by decide) (n := 1) (by decide) (by decide) (by decide) (by decide) e515 (hb hby at_45) (q := 47) rfl ?_
      intro T516 h516 k516 b516 g516 X516 e516 E516 V516
      have Va516 : Arv Z h516 b516 k516 .char (1 : Int32) [(.int (0 : Int32))] (.int 0) := V516
      refine g_dup X516 hx (hb hby at_47) (q := 48) rfl rfl ?_
      refine cI X516 hx (hb hby at_48) (q := 49) rfl (z := (0 : Int32)) rfl ?_
      refine iL X516 hx (hb hby at_49) (q := 50) rfl rfl ?_
      refine pI X516 hx (hb hby at_50) (q := 53) rfl (z := (255 : Int32)) rfl ?_
      refine g_iand X516 hx (hb hby at_53) (q := 54) rfl rfl ?_
      refine g_i2c X516 hx (hb hby at_54) (q := 55) rfl (z := (chr p1)) rfl ?_
      have f519 : Old Z Z.heap.size T497.heap := f500.keep K497q (allS gz501 all0)
      have f520 : Old Z Z.heap.size h515 := f519.ext E515
      have gz518 : Z.heap.size ≤ b516 := Nat.le_trans f520.2.1 (Nat.le_of_eq g516.symm)
      refine g_stC X516 hx hZ0 Va516 (i := 0) (by decide) (by decide) (by decide) (Nat.le_of_ble_eq_true rfl) (y := (chr p1)) (chr_nar _) e516 (hb hby at_55) (q := 56) rfl ?_
      intro T517 h517 X517 e517 W517 V517
      have N517 := Fr.snoc X517 N497 gz518
      have Va517 : Arv Z h517 b516 k516 .char (1 : Int32) [(.int (chr p1))] (.int 0) := V517
      have f522 : Old Z Z.heap.size h516 := f520.ext E516
      have f523 : Old Z Z.heap.size h517 := f522.wr W517 gz518
      have gz524 : Z.heap.size ≤ b515 := Nat.le_trans f519.2.1 (Nat.le_of_eq g515.symm)
      have f525 : Exa Z h516 b515 "java/lang/String" := A515.ext E516
      have f526 : Exa Z h517 b515 "java/lang/String" := f525.wr W517
      have f527 : Fld Z h516 b515 "java/lang/String" "value" "[B" .null := F515_29.ext E516
      have ne528 : b515 ≠ b516 := (Nat.ne_of_lt (Nat.lt_of_lt_of_le (Nat.lt_of_lt_of_le A515.lt (Nat.le_refl _)) (Nat.le_of_eq g516.symm)))
      have f529 : Fld Z h517 b515 "java/lang/String" "value" "[B" .null := f527.other W517 (Or.inl ne528)
      have f530 : Fld Z h516 b515 "java/lang/String" "coder" "B" (.int (0 : Int32)) := F515_27.ext E516
      have f531 : Fld Z h517 b515 "java/lang/String" "coder" "B" (.int (0 : Int32)) := f530.other W517 (Or.inl ne528)
      refine g_sp X517 hx hZ0 hown0 (wd4 hw) (wd5 hw) (wd6 hw) rfl (by decide) e517 (StrChars.Road.backV (W := 1) hZ0 (own_wStr hw) (kI := 4) (wd1 hw) (cs := ([(chr p1)] : List Int32)) (bs := (([(chr p1)] : List Int32).map (fun c => c.toInt8.toInt32))) (n := 1) gz524 f523.2.1 f526 f529 f531 Va517 (SC.ext f523.2) PC rfl rfl (by decide) (by decide) (alS (chr_rng _) al0) rfl (by decide) (by decide)) (a := b515) (argsL := [.ref b516]) (W := 1) (nk := 1) (ns := 1) (Qc := StrChars.Road.QV Z b515 (1 : Int32) (([(chr p1)] : List Int32).map (fun c => c.toInt8.toInt32)) h517 Z.heap.size) (by rw [hml]; rfl) (lenOf pd15 rfl) rfl (Nat.le_of_eq rfl) (hb hby at_56) (q := 59) rfl (by decide) (by decide) ?_
      intro v521 T521 L521 X521 Q521
      obtain ⟨rfl, Nq521, K521q, E521q, C521q, t521, kb521, tz521, tg521, tn521, Fv521, Va521⟩ := Q521
      have N521 := Fr.app N517 Nq521
      show Go _ _ _ _ (T521.setTop (mkF m 59 #[.val (.int p0), .val (.int p1), .val (.int p2), .val (.int p3), .val (.int p4), .val (.int p5), .val (.ref b491), .unset, .unset, .unset, .unset, .unset, .unset, .unset, .unset, .unset, .unset, .unset, .unset, .unset] [(.ref b515)]))
      refine g_goto X521 hx (hb hby at_59) (q := 63) (by decide) (by decide) ?_
      have K533 : Keep T497.heap h515 [] := (Keep.refl T497.heap []).ext E515
      have K534 : Keep T497.heap h516 [] := K533.ext E516
      have le535 : (T497.heap).size ≤ (h515).size := E515.1
      have K536 : Keep T497.heap h517 [] := K534.wr W517 (Or.inr (Nat.le_trans le535 (Nat.le_of_eq g516.symm)))
      have K537 : Keep T497.heap T521.heap [] := K536.trans K521q (allS (Or.inr (Nat.le_trans (Nat.le_refl _) (Nat.le_of_eq g515.symm))) all0)
      exact kk512 _ _ _ (.ref b515) rfl (X521.more (by decide) (by decide)) rfl K537 N521
  intro T512 h512 L512 ov512 r512 X512 e512 K512q N512
  show Go _ _ _ _ (T512.setTop (mkF m 63 #[.val (.int p0), .val (.int p1), .val (.int p2), .val (.int p3), .val (.int p4), .val (.int p5), .val (.ref b491), .unset, .unset, .unset, .unset, .unset, .unset, .unset, .unset, .unset, .unset, .unset, .unset, .unset] [ov512]))
  refine sAw X512 hx (hb hby at_63) (q := 65) rfl r512 (Ls' := #[.val (.int p0), .val (.int p1), .val (.int p2), .val (.int p3), .val (.int p4), .val (.int p5), .val (.ref b491), .val ov512, .unset, .unset, .unset, .unset, .unset, .unset, .unset, .unset, .unset, .unset, .unset, .unset]) (by rcases ref_cases r512 with q | ⟨_, q⟩ <;> (rw [q]; rfl)) ?_
  refine g_new X512 hx hZ0 hown0 (wd0 hw) (wd1 hw) (wd2 hw) (by decide) (by decide) e512 (hb hby at_65) (q := 68) rfl ?_
  intro T538 h538 b538 g538 X538 e538 E538 A538 D538
  have F538_27 := D538 (Or.inr (wd27 hw)) (ty := .byte) (by decide)
  have F538_29 := D538 (Or.inr (wd29 hw)) (ty := (.array .byte)) (by decide)
  refine g_dup X538 hx (hb hby at_68) (q := 69) rfl rfl ?_
  refine cI X538 hx (hb hby at_69) (q := 70) rfl (z := (2 : Int32)) rfl ?_
  refine g_newA X538 hx hZ0 (aty := .char) (wd3 hw) (by decide) (n := 2) (by decide) (by decide) (by decide) (by decide) e538 (hb hby at_70) (q := 72) rfl ?_
  intro T539 h539 k539 b539 g539 X539 e539 E539 V539
  have Va539 : Arv Z h539 b539 k539 .char (2 : Int32) [(.int (0 : Int32)), (.int (0 : Int32))] (.int 0) := V539
  refine g_dup X539 hx (hb hby at_72) (q := 73) rfl rfl ?_
  refine cI X539 hx (hb hby at_73) (q := 74) rfl (z := (0 : Int32)) rfl ?_
  refine iLw X539 hx (hb hby at_74) (q := 76) rfl rfl ?_
  refine pI X539 hx (hb hby at_76) (q := 79) rfl (z := (255 : Int32)) rfl ?_
  refine g_iand X539 hx (hb hby at_79) (q := 80) rfl rfl ?_
  refine g_i2c X539 hx (hb hby at_80) (q := 81) rfl (z := (chr p5)) rfl ?_
  have f542 : Old Z Z.heap.size T497.heap := f500.keep K497q (allS gz501 all0)
  have f543 : Old Z Z.heap.size h512 := f542.keep K512q all0
  have f544 : Old Z Z.heap.size h538 := f543.ext E538
  have gz541 : Z.heap.size ≤ b539 := Nat.le_trans f544.2.1 (Nat.le_of_eq g539.symm)
  refine g_stC X539 hx hZ0 Va539 (i := 0) (by decide) (by decide) (by decide) (Nat.le_of_ble_eq_true rfl) (y := (chr p5)) (chr_nar _) e539 (hb hby at_81) (q := 82) rfl ?_
  intro T540 h540 X540 e540 W540 V540
  have N540 := Fr.snoc X540 N512 gz541
  have Va540 : Arv Z h540 b539 k539 .char (2 : Int32) [(.int (chr p5)), (.int (0 : Int32))] (.int 0) := V540
  refine g_dup X540 hx (hb hby at_82) (q := 83) rfl rfl ?_
  refine cI X540 hx (hb hby at_83) (q := 84) rfl (z := (1 : Int32)) rfl ?_
  refine iLw X540 hx (hb hby at_84) (q := 86) rfl rfl ?_
  refine bI X540 hx (hb hby at_86) (q := 88) rfl (z := (8 : Int32)) rfl ?_
  refine g_iushr X540 hx (hb hby at_88) (q := 89) rfl rfl ?_
  refine pI X540 hx (hb hby at_89) (q := 92) rfl (z := (255 : Int32)) rfl ?_
  refine g_iand X540 hx (hb hby at_92) (q := 93) rfl rfl ?_
  refine g_i2c X540 hx (hb hby at_93) (q := 94) rfl (z := (chr ((p5.toUInt32 >>> ((8 : Int32) &&& 31).toUInt32).toInt32))) rfl ?_
  refine g_stC X540 hx hZ0 Va540 (i := 1) (by decide) (by decide) (by decide) (Nat.le_of_ble_eq_true rfl) (y := (chr ((p5.toUInt32 >>> ((8 : Int32) &&& 31).toUInt32).toInt32))) (chr_nar _) e540 (hb hby at_94) (q := 95) rfl ?_
  intro T545 h545 X545 e545 W545 V545
  have N545 := Fr.snoc X545 N540 gz541
  have Va545 : Arv Z h545 b539 k539 .char (2 : Int32) [(.int (chr p5)), (.int (chr ((p5.toUInt32 >>> ((8 : Int32) &&& 31).toUInt32).toInt32)))] (.int 0) := V545
  have f547 : Old Z Z.heap.size h539 := f544.ext E539
  have f548 : Old Z Z.heap.size h540 := f547.wr W540 gz541
  have f549 : Old Z Z.heap.size h545 := f548.wr W545 gz541
  have gz550 : Z.heap.size ≤ b538 := Nat.le_trans f543.2.1 (Nat.le_of_eq g538.symm)
  have f551 : Exa Z h539 b538 "java/lang/String" := A538.ext E539
  have f552 : Exa Z h540 b538 "java/lang/String" := f551.wr W540
  have f553 : Exa Z h545 b538 "java/lang/String" := f552.wr W545
  have f554 : Fld Z h539 b538 "java/lang/String" "value" "[B" .null := F538_29.ext E539
  have ne555 : b538 ≠ b539 := (Nat.ne_of_lt (Nat.lt_of_lt_of_le (Nat.lt_of_lt_of_le A538.lt (Nat.le_refl _)) (Nat.le_of_eq g539.symm)))
  have f556 : Fld Z h540 b538 "java/lang/String" "value" "[B" .null := f554.other W540 (Or.inl ne555)
  have f557 : Fld Z h545 b538 "java/lang/String" "value" "[B" .null := f556.other W545 (Or.inl ne555)
  have f558 : Fld Z h539 b538 "java/lang/String" "coder" "B" (.int (0 : Int32)) := F538_27.ext E539
  have f559 : Fld Z h540 b538 "java/lang/String" "coder" "B" (.int (0 : Int32)) := f558.other W540 (Or.inl ne555)
  have f560 : Fld Z h545 b538 "java/lang/String" "coder" "B" (.int (0 : Int32)) := f559.other W545 (Or.inl ne555)
  refine g_sp X545 hx hZ0 hown0 (wd4 hw) (wd5 hw) (wd6 hw) rfl (by decide) e545 (StrChars.Road.backV (W := 1) hZ0 (own_wStr hw) (kI := 4) (wd1 hw) (cs := ([(chr p5), (chr ((p5.toUInt32 >>> ((8 : Int32) &&& 31).toUInt32).toInt32))] : List Int32)) (bs := (([(chr p5), (chr ((p5.toUInt32 >>> ((8 : Int32) &&& 31).toUInt32).toInt32))] : List Int32).map (fun c => c.toInt8.toInt32))) (n := 2) gz550 f549.2.1 f553 f557 f560 Va545 (SC.ext f549.2) PC rfl rfl (by decide) (by decide) (alS (chr_rng _) (alS (chr_rng _) al0)) rfl (by decide) (by decide)) (a := b538) (argsL := [.ref b539]) (W := 1) (nk := 1) (ns := 2) (Qc := StrChars.Road.QV Z b538 (2 : Int32) (([(chr p5), (chr ((p5.toUInt32 >>> ((8 : Int32) &&& 31).toUInt32).toInt32))] : List Int32).map (fun c => c.toInt8.toInt32)) h545 Z.heap.size) (by rw [hml]; rfl) (lenOf pd15 rfl) rfl (Nat.le_of_eq rfl) (hb hby at_95) (q := 98) rfl (by decide) (by decide) ?_
  intro v546 T546 L546 X546 Q546
  obtain ⟨rfl, Nq546, K546q, E546q, C546q, t546, kb546, tz546, tg546, tn546, Fv546, Va546⟩ := Q546
  have N546 := Fr.app N545 Nq546
  show Go _ _ _ _ (T546.setTop (mkF m 98 #[.val (.int p0), .val (.int p1), .val (.int p2), .val (.int p3), .val (.int p4), .val (.int p5), .val (.ref b491), .val ov512, .unset, .unset, .unset, .unset, .unset, .unset, .unset, .unset, .unset, .unset, .unset, .unset] [(.ref b538)]))
  refine sAw X546 hx (hb hby at_98) (q := 100) rfl rfl (Ls' := #[.val (.int p0), .val (.int p1), .val (.int p2), .val (.int p3), .val (.int p4), .val (.int p5), .val (.ref b491), .val ov512, .val (.ref b538), .unset, .unset, .unset, .unset, .unset, .unset, .unset, .unset, .unset, .unset, .unset]) rfl ?_
  refine g_new X546 hx hZ0 hown0 (wd0 hw) (wd1 hw) (wd2 hw) (by decide) (by decide) rfl (hb hby at_100) (q := 103) rfl ?_
  intro T561 h561 b561 g561 X561 e561 E561 A561 D561
  have F561_27 := D561 (Or.inr (wd27 hw)) (ty := .byte) (by decide)
  have F561_29 := D561 (Or.inr (wd29 hw)) (ty := (.array .byte)) (by decide)
  refine g_dup X561 hx (hb hby at_103) (q := 104) rfl rfl ?_
  refine cI X561 hx (hb hby at_104) (q := 105) rfl (z := (1 : Int32)) rfl ?_
  refine g_newA X561 hx hZ0 (aty := .char) (wd3 hw) (by decide) (n := 1) (by decide) (by decide) (by decide) (by decide) e561 (hb hby at_105) (q := 107) rfl ?_
  intro T562 h562 k562 b562 g562 X562 e562 E562 V562
  have Va562 : Arv Z h562 b562 k562 .char (1 : Int32) [(.int (0 : Int32))] (.int 0) := V562
  refine g_dup X562 hx (hb hby at_107) (q := 108) rfl rfl ?_
  refine cI X562 hx (hb hby at_108) (q := 109) rfl (z := (0 : Int32)) rfl ?_
  refine iLw X562 hx (hb hby at_109) (q := 111) rfl rfl ?_
  refine bI X562 hx (hb hby at_111) (q := 113) rfl (z := (16 : Int32)) rfl ?_
  refine g_iushr X562 hx (hb hby at_113) (q := 114) rfl rfl ?_
  refine pI X562 hx (hb hby at_114) (q := 117) rfl (z := (255 : Int32)) rfl ?_
  refine g_iand X562 hx (hb hby at_117) (q := 118) rfl rfl ?_
  refine g_i2c X562 hx (hb hby at_118) (q := 119) rfl (z := (chr ((p5.toUInt32 >>> ((16 : Int32) &&& 31).toUInt32).toInt32))) rfl ?_
  have f565 : Old Z Z.heap.size T546.heap := f549.keep K546q (allS gz550 all0)
  have f566 : Old Z Z.heap.size h561 := f565.ext E561
  have gz564 : Z.heap.size ≤ b562 := Nat.le_trans f566.2.1 (Nat.le_of_eq g562.symm)
  refine g_stC X562 hx hZ0 Va562 (i := 0) (by decide) (by decide) (by decide) (Nat.le_of_ble_eq_true rfl) (y := (chr ((p5.toUInt32 >>> ((16 : Int32) &&& 31).toUInt32).toInt32))) (chr_nar _) e562 (hb hby at_119) (q := 120) rfl ?_
  intro T563 h563 X563 e563 W563 V563
  have N563 := Fr.snoc X563 N546 gz564
  have Va563 : Arv Z h563 b562 k562 .char (1 : Int32) [(.int (chr ((p5.toUInt32 >>> ((16 : Int32) &&& 31).toUInt32).toInt32)))] (.int 0) := V563
  have f568 : Old Z Z.heap.size h562 := f566.ext E562
  have f569 : Old Z Z.heap.size h563 := f568.wr W563 gz564
  have gz570 : Z.heap.size ≤ b561 := Nat.le_trans f565.2.1 (Nat.le_of_eq g561.symm)
  have f571 : Exa Z h562 b561 "java/lang/String" := A561.ext E562
  have f572 : Exa Z h563 b561 "java/lang/String" := f571.wr W563
  have f573 : Fld Z h562 b561 "java/lang/String" "value" "[B" .null := F561_29.ext E562
  have ne574 : b561 ≠ b562 := (Nat.ne_of_lt (Nat.lt_of_lt_of_le (Nat.lt_of_lt_of_le A561.lt (Nat.le_refl _)) (Nat.le_of_eq g562.symm)))
  have f575 : Fld Z h563 b561 "java/lang/String" "value" "[B" .null := f573.other W563 (Or.inl ne574)
  have f576 : Fld Z h562 b561 "java/lang/String" "coder" "B" (.int (0 : Int32)) := F561_27.ext E562
  have f577 : Fld Z h563 b561 "java/lang/String" "coder" "B" (.int (0 : Int32)) := f576.other W563 (Or.inl ne574)
  refine g_sp X563 hx hZ0 hown0 (wd4 hw) (wd5 hw) (wd6 hw) rfl (by decide) e563 (StrChars.Road.backV (W := 1) hZ0 (own_wStr hw) (kI := 4) (wd1 hw) (cs := ([(chr ((p5.toUInt32 >>> ((16 : Int32) &&& 31).toUInt32).toInt32))] : List Int32)) (bs := (([(chr ((p5.toUInt32 >>> ((16 : Int32) &&& 31).toUInt32).toInt32))] : List Int32).map (fun c => c.toInt8.toInt32))) (n := 1) gz570 f569.2.1 f572 f575 f577 Va563 (SC.ext f569.2) PC rfl rfl (by decide) (by decide) (alS (chr_rng _) al0) rfl (by decide) (by decide)) (a := b561) (argsL := [.ref b562]) (W := 1) (nk := 1) (ns := 1) (Qc := StrChars.Road.QV Z b561 (1 : Int32) (([(chr ((p5.toUInt32 >>> ((16 : Int32) &&& 31).toUInt32).toInt32))] : List Int32).map (fun c => c.toInt8.toInt32)) h563 Z.heap.size) (by rw [hml]; rfl) (lenOf pd15 rfl) rfl (Nat.le_of_eq rfl) (hb hby at_120) (q := 123) rfl (by decide) (by decide) ?_
  intro v567 T567 L567 X567 Q567
  obtain ⟨rfl, Nq567, K567q, E567q, C567q, t567, kb567, tz567, tg567, tn567, Fv567, Va567⟩ := Q567
  have N567 := Fr.app N563 Nq567
  show Go _ _ _ _ (T567.setTop (mkF m 123 #[.val (.int p0), .val (.int p1), .val (.int p2), .val (.int p3), .val (.int p4), .val (.int p5), .val (.ref b491), .val ov512, .val (.ref b538), .unset, .unset, .unset, .unset, .unset, .unset, .unset, .unset, .unset, .unset, .unset] [(.ref b561)]))
  refine sAw X567 hx (hb hby at_123) (q := 125) rfl rfl (Ls' := #[.val (.int p0), .val (.int p1), .val (.int p2), .val (.int p3), .val (.int p4), .val (.int p5), .val (.ref b491), .val ov512, .val (.ref b538), .val (.ref b561), .unset, .unset, .unset, .unset, .unset, .unset, .unset, .unset, .unset, .unset]) rfl ?_
  refine iLw X567 hx (hb hby at_125) (q := 127) rfl rfl ?_
  refine cI X567 hx (hb hby at_127) (q := 128) rfl (z := (1 : Int32)) rfl ?_
  refine g_iushr X567 hx (hb hby at_128) (q := 129) rfl rfl ?_
  refine cI X567 hx (hb hby at_129) (q := 130) rfl (z := (3 : Int32)) rfl ?_
  refine g_iand X567 hx (hb hby at_130) (q := 131) rfl rfl ?_
  refine cI X567 hx (hb hby at_131) (q := 132) rfl (z := (3 : Int32)) rfl ?_
  refine g_irem X567 hx (hb hby at_132) (q := 133) rfl (by decide) rfl ?_
  rcases (own_c _ : ((((p4.toUInt32 >>> ((1 : Int32) &&& 31).toUInt32).toInt32) &&& (3 : Int32)) % (3 : Int32)) = (0 : Int32) ∨ ((((p4.toUInt32 >>> ((1 : Int32) &&& 31).toUInt32).toInt32) &&& (3 : Int32)) % (3 : Int32)) = (1 : Int32) ∨ ((((p4.toUInt32 >>> ((1 : Int32) &&& 31).toUInt32).toInt32) &&& (3 : Int32)) % (3 : Int32)) = (2 : Int32)) with hk578 | hk579 | hk580
  · rw [hk578]
    show Go _ _ _ _ (T567.setTop (mkF m 133 #[.val (.int p0), .val (.int p1), .val (.int p2), .val (.int p3), .val (.int p4), .val (.int p5), .val (.ref b491), .val ov512, .val (.ref b538), .val (.ref b561), .unset, .unset, .unset, .unset, .unset, .unset, .unset, .unset, .unset, .unset] [(.int (0 : Int32))]))
    refine sIw X567 hx (hb hby at_133) (q := 135) rfl (Ls' := #[.val (.int p0), .val (.int p1), .val (.int p2), .val (.int p3), .val (.int p4), .val (.int p5), .val (.ref b491), .val ov512, .val (.ref b538), .val (.ref b561), .val (.int (0 : Int32)), .unset, .unset, .unset, .unset, .unset, .unset, .unset, .unset, .unset]) rfl ?_
    refine g_new X567 hx hZ0 hown0 (wd30 hw) (wd31 hw) (wd32 hw) (by decide) (by decide) rfl (hb hby at_135) (q := 138) rfl ?_
    intro T581 h581 b581 g581 X581 e581 E581 A581 D581
    have F581_43 := D581 (Or.inr (wd43 hw)) (ty := .int) (by decide)
    have F581_45 := D581 (Or.inr (wd45 hw)) (ty := (.object "java/lang/String")) (by decide)
    have F581_47 := D581 (Or.inr (wd47 hw)) (ty := (.object "java/lang/String")) (by decide)
    refine g_dup X581 hx (hb hby at_138) (q := 139) rfl rfl ?_
    refine iL X581 hx (hb hby at_139) (q := 140) rfl rfl ?_
    refine aLw X581 hx (hb hby at_140) (q := 142) rfl rfl rfl ?_
    refine aLw X581 hx (hb hby at_142) (q := 144) rfl rfl rfl ?_
    have f586 : Old Z Z.heap.size T567.heap := f569.keep K567q (allS gz570 all0)
    have gz585 : Z.heap.size ≤ b581 := Nat.le_trans f586.2.1 (Nat.le_of_eq g581.symm)
    have f587 : Old Z Z.heap.size h581 := f586.ext E581
    refine g_sp X581 hx hZ0 hown0 (wd33 hw) (wd34 hw) (wd35 hw) rfl (by decide) e581 (Con.back (W := 1) (rm_loinit l Z a0 hw zC SC PC aE SE aD SD aM SM mO MO b581 p2 b538 b561 h581 f587 A581 F581_43 F581_45 F581_47 gz585) hZ0 (wd35 hw) (wd32 hw) (by decide) (by decide)) (by rw [hml]; rfl) (lenOf pd16 rfl) rfl (Nat.le_of_eq rfl) (hb hby at_144) (q := 147) rfl (by decide) (by decide) ?_
    intro v584 T584 L584 X584 Q584
    obtain ⟨rfl, Nq584, K584q, q584_0⟩ := Q584
    have N584 := Fr.app N567 Nq584
    show Go _ _ _ _ (T584.setTop (mkF m 147 #[.val (.int p0), .val (.int p1), .val (.int p2), .val (.int p3), .val (.int p4), .val (.int p5), .val (.ref b491), .val ov512, .val (.ref b538), .val (.ref b561), .val (.int (0 : Int32)), .unset, .unset, .unset, .unset, .unset, .unset, .unset, .unset, .unset] [(.ref b581)]))
    refine sAw X584 hx (hb hby at_147) (q := 149) rfl rfl (Ls' := #[.val (.int p0), .val (.int p1), .val (.int p2), .val (.int p3), .val (.int p4), .val (.int p5), .val (.ref b491), .val ov512, .val (.ref b538), .val (.ref b561), .val (.int (0 : Int32)), .val (.ref b581), .unset, .unset, .unset, .unset, .unset, .unset, .unset, .unset]) rfl ?_
    refine g_new X584 hx hZ0 hown0 (wd30 hw) (wd31 hw) (wd32 hw) (by decide) (by decide) rfl (hb hby at_149) (q := 152) rfl ?_
    intro T588 h588 b588 g588 X588 e588 E588 A588 D588
    have F588_43 := D588 (Or.inr (wd43 hw)) (ty := .int) (by decide)
    have F588_45 := D588 (Or.inr (wd45 hw)) (ty := (.object "java/lang/String")) (by decide)
    have F588_47 := D588 (Or.inr (wd47 hw)) (ty := (.object "java/lang/String")) (by decide)
    refine g_dup X588 hx (hb hby at_152) (q := 153) rfl rfl ?_
    refine iL X588 hx (hb hby at_153) (q := 154) rfl rfl ?_
    refine aLw X588 hx (hb hby at_154) (q := 156) rfl rfl rfl ?_
    refine aLw X588 hx (hb hby at_156) (q := 158) rfl rfl rfl ?_
    have f593 : Old Z Z.heap.size T584.heap := f587.keep K584q (allS gz585 all0)
    have gz592 : Z.heap.size ≤ b588 := Nat.le_trans f593.2.1 (Nat.le_of_eq g588.symm)
    have f594 : Old Z Z.heap.size h588 := f593.ext E588
    refine g_sp X588 hx hZ0 hown0 (wd33 hw) (wd34 hw) (wd35 hw) rfl (by decide) e588 (Con.back (W := 1) (rm_loinit l Z a0 hw zC SC PC aE SE aD SD aM SM mO MO b588 p3 b561 b538 h588 f594 A588 F588_43 F588_45 F588_47 gz592) hZ0 (wd35 hw) (wd32 hw) (by decide) (by decide)) (by rw [hml]; rfl) (lenOf pd16 rfl) rfl (Nat.le_of_eq rfl) (hb hby at_158) (q := 161) rfl (by decide) (by decide) ?_
    intro v591 T591 L591 X591 Q591
    obtain ⟨rfl, Nq591, K591q, q591_0⟩ := Q591
    have N591 := Fr.app N584 Nq591
    show Go _ _ _ _ (T591.setTop (mkF m 161 #[.val (.int p0), .val (.int p1), .val (.int p2), .val (.int p3), .val (.int p4), .val (.int p5), .val (.ref b491), .val ov512, .val (.ref b538), .val (.ref b561), .val (.int (0 : Int32)), .val (.ref b581), .unset, .unset, .unset, .unset, .unset, .unset, .unset, .unset] [(.ref b588)]))
    refine sAw X591 hx (hb hby at_161) (q := 163) rfl rfl (Ls' := #[.val (.int p0), .val (.int p1), .val (.int p2), .val (.int p3), .val (.int p4), .val (.int p5), .val (.ref b491), .val ov512, .val (.ref b538), .val (.ref b561), .val (.int (0 : Int32)), .val (.ref b581), .val (.ref b588), .unset, .unset, .unset, .unset, .unset, .unset, .unset]) rfl ?_
    refine g_new X591 hx hZ0 hown0 (wd48 hw) (wd49 hw) (wd50 hw) (by decide) (by decide) rfl (hb hby at_163) (q := 166) rfl ?_
    intro T595 h595 b595 g595 X595 e595 E595 A595 D595
    have F595_68 := D595 (Or.inl (wd68 hw)) (ty := .int) (by decide)
    have F595_71 := D595 (Or.inl (wd71 hw)) (ty := (.array (.object "java/lang/Object"))) (by decide)
    have F595_103 := D595 (Or.inl (wd103 hw)) (ty := .int) (by decide)
    refine g_dup X595 hx (hb hby at_166) (q := 167) rfl rfl ?_
    have f600 : Old Z Z.heap.size T591.heap := f594.keep K591q (allS gz592 all0)
    have gz599 : Z.heap.size ≤ b595 := Nat.le_trans f600.2.1 (Nat.le_of_eq g595.symm)
    have f601 : Old Z Z.heap.size h595 := f600.ext E595
    refine g_sp X595 hx hZ0 hown0 (wd51 hw) (wd52 hw) (wd53 hw) rfl (by decide) e595 (Con.back (W := 1) (rm_alinit l Z a0 hw zC SC PC aE SE aD SD aM SM mO MO b595 h595 f601 A595 F595_68 gz599 F595_103 F595_71) hZ0 (wd53 hw) (wd50 hw) (by decide) (by decide)) (by rw [hml]; rfl) (lenOf pd0 rfl) rfl (Nat.le_of_eq rfl) (hb hby at_167) (q := 170) rfl (by decide) (by decide) ?_
    intro v598 T598 L598 X598 Q598
    obtain ⟨rfl, Nq598, K598q, q598_0, q598_1, q598_2, q598_3⟩ := Q598
    have N598 := Fr.app N591 Nq598
    show Go _ _ _ _ (T598.setTop (mkF m 170 #[.val (.int p0), .val (.int p1), .val (.int p2), .val (.int p3), .val (.int p4), .val (.int p5), .val (.ref b491), .val ov512, .val (.ref b538), .val (.ref b561), .val (.int (0 : Int32)), .val (.ref b581), .val (.ref b588), .unset, .unset, .unset, .unset, .unset, .unset, .unset] [(.ref b595)]))
    refine sAw X598 hx (hb hby at_170) (q := 172) rfl rfl (Ls' := #[.val (.int p0), .val (.int p1), .val (.int p2), .val (.int p3), .val (.int p4), .val (.int p5), .val (.ref b491), .val ov512, .val (.ref b538), .val (.ref b561), .val (.int (0 : Int32)), .val (.ref b581), .val (.ref b588), .val (.ref b595), .unset, .unset, .unset, .unset, .unset, .unset]) rfl ?_
    refine iLw X598 hx (hb hby at_172) (q := 174) rfl rfl ?_
    refine cI X598 hx (hb hby at_174) (q := 175) rfl (z := (1 : Int32)) rfl ?_
    refine icY X598 hx (hb hby at_175) (q := 188) (by decide) (by decide) (by decide) ?_
    refine iLw X598 hx (hb hby at_188) (q := 190) rfl rfl ?_
    refine cI X598 hx (hb hby at_190) (q := 191) rfl (z := (2 : Int32)) rfl ?_
    refine icY X598 hx (hb hby at_191) (q := 204) (by decide) (by decide) (by decide) ?_
    refine iLw X598 hx (hb hby at_204) (q := 206) rfl rfl ?_
    refine bI X598 hx (hb hby at_206) (q := 208) rfl (z := (8 : Int32)) rfl ?_
    refine g_iand X598 hx (hb hby at_208) (q := 209) rfl rfl ?_
    suffices kk602 : ∀ (T602 : State) (h602 : Heap) (L602 : List Loc) (ov602 : Value) , ov602.isRef = true → Stand p l e room_1 s m #[.int p0, .int p1, .int p2, .int p3, .int p4, .int p5] below meth c T602 L602 16 39 → T602.heap = h602 → Keep T598.heap h602 [] → Fr Z.heap.size L602 → Go p.tables e below (PEnd s (Q_law Z zC aE aD aM mO p0 p1 p2 p3 p4 p5 eA eK eL dK dL h0) room_1.cells room_1.slots) (T602.setTop (mkF m 227 #[.val (.int p0), .val (.int p1), .val (.int p2), .val (.int p3), .val (.int p4), .val (.int p5), .val (.ref b491), .val ov512, .val (.ref b538), .val (.ref b561), .val (.int (0 : Int32)), .val (.ref b581), .val (.ref b588), .val (.ref b595), .unset, .unset, .unset, .unset, .unset, .unset] [ov602])) by
      by_cases hc603 : (p4 &&& (8 : Int32)) = (0 : Int32)
      · refine ifY X598 hx (hb hby at_209) (q := 226) (by decide) (by decide) ((if0 _ _).trans (teq hc603).1) ?_
        refine cN X598 hx (hb hby at_226) (q := 227) rfl ?_
        exact kk602 _ _ _ .null rfl (X598.more (by decide) (by decide)) rfl (Keep.refl T598.heap []) N598
      · refine ifN X598 hx (hb hby at_209) (q := 212) rfl ((if0 _ _).trans (feq hc603).1) ?_
        refine g_new X598 hx hZ0 hown0 (wd162 hw) (wd163 hw) (wd164 hw) (by decide) (by decide) rfl (hb hby at_212) (q := 215) rfl ?_
        intro T605 h605 b605 g605 X605 e605 E605 A605 D605
        have F605_170 := D605 (Or.inr (wd170 hw)) (ty := (.object "java/lang/String")) (by decide)
        have F605_172 := D605 (Or.inr (wd172 hw)) (ty := (.object "java/lang/String")) (by decide)
        refine g_dup X605 hx (hb hby at_215) (q := 216) rfl rfl ?_
        refine aLw X605 hx (hb hby at_216) (q := 218) rfl rfl rfl ?_
        refine aLw X605 hx (hb hby at_218) (q := 220) rfl rfl rfl ?_
        have f610 : Old Z Z.heap.size T598.heap := f601.keep K598q (allS gz599 all0)
        have gz609 : Z.heap.size ≤ b605 := Nat.le_trans f610.2.1 (Nat.le_of_eq g605.symm)
        have f611 : Old Z Z.heap.size h605 := f610.ext E605
        refine g_sp X605 hx hZ0 hown0 (wd165 hw) (wd166 hw) (wd167 hw) rfl (by decide) e605 (Con.back (W := 1) (rm_wdinit l Z a0 hw zC SC PC aE SE aD SD aM SM mO MO b605 b538 b561 h605 f611 A605 F605_170 F605_172 gz609) hZ0 (wd167 hw) (wd164 hw) (by decide) (by decide)) (by rw [hml]; rfl) (lenOf pd17 rfl) rfl (Nat.le_of_eq rfl) (hb hby at_220) (q := 223) rfl (by decide) (by decide) ?_
        intro v608 T608 L608 X608 Q608
        obtain ⟨rfl, Nq608, K608q, q608_0⟩ := Q608
        have N608 := Fr.app N598 Nq608
        show Go _ _ _ _ (T608.setTop (mkF m 223 #[.val (.int p0), .val (.int p1), .val (.int p2), .val (.int p3), .val (.int p4), .val (.int p5), .val (.ref b491), .val ov512, .val (.ref b538), .val (.ref b561), .val (.int (0 : Int32)), .val (.ref b581), .val (.ref b588), .val (.ref b595), .unset, .unset, .unset, .unset, .unset, .unset] [(.ref b605)]))
        refine g_goto X608 hx (hb hby at_223) (q := 227) (by decide) (by decide) ?_
        have K613 : Keep T598.heap h605 [] := (Keep.refl T598.heap []).ext E605
        have K614 : Keep T598.heap T608.heap [] := K613.trans K608q (allS (Or.inr (Nat.le_trans (Nat.le_refl _) (Nat.le_of_eq g605.symm))) all0)
        exact kk602 _ _ _ (.ref b605) rfl (X608.more (by decide) (by decide)) rfl K614 N608
    intro T602 h602 L602 ov602 r602 X602 e602 K602q N602
    show Go _ _ _ _ (T602.setTop (mkF m 227 #[.val (.int p0), .val (.int p1), .val (.int p2), .val (.int p3), .val (.int p4), .val (.int p5), .val (.ref b491), .val ov512, .val (.ref b538), .val (.ref b561), .val (.int (0 : Int32)), .val (.ref b581), .val (.ref b588), .val (.ref b595), .unset, .unset, .unset, .unset, .unset, .unset] [ov602]))
    refine sAw X602 hx (hb hby at_227) (q := 229) rfl r602 (Ls' := #[.val (.int p0), .val (.int p1), .val (.int p2), .val (.int p3), .val (.int p4), .val (.int p5), .val (.ref b491), .val ov512, .val (.ref b538), .val (.ref b561), .val (.int (0 : Int32)), .val (.ref b581), .val (.ref b588), .val (.ref b595), .val ov602, .unset, .unset, .unset, .unset, .unset]) (by rcases ref_cases r602 with q | ⟨_, q⟩ <;> (rw [q]; rfl)) ?_
    refine iLw X602 hx (hb hby at_229) (q := 231) rfl rfl ?_
    refine bI X602 hx (hb hby at_231) (q := 233) rfl (z := (16 : Int32)) rfl ?_
    refine g_iand X602 hx (hb hby at_233) (q := 234) rfl rfl ?_
    suffices kk615 : ∀ (T615 : State) (h615 : Heap) (L615 : List Loc) (ov615 : Value) , ov615.isRef = true → Stand p l e room_1 s m #[.int p0, .int p1, .int p2, .int p3, .int p4, .int p5] below meth c T615 L615 17 41 → T615.heap = h615 → Keep h602 h615 [] → Fr Z.heap.size L615 → Go p.tables e below (PEnd s (Q_law Z zC aE aD aM mO p0 p1 p2 p3 p4 p5 eA eK eL dK dL h0) room_1.cells room_1.slots) (T615.setTop (mkF m 252 #[.val (.int p0), .val (.int p1), .val (.int p2), .val (.int p3), .val (.int p4), .val (.int p5), .val (.ref b491), .val ov512, .val (.ref b538), .val (.ref b561), .val (.int (0 : Int32)), .val (.ref b581), .val (.ref b588), .val (.ref b595), .val ov602, .unset, .unset, .unset, .unset, .unset] [ov615])) by
      by_cases hc616 : (p4 &&& (16 : Int32)) = (0 : Int32)
      · refine ifY X602 hx (hb hby at_234) (q := 251) (by decide) (by decide) ((if0 _ _).trans (teq hc616).1) ?_
        refine cN X602 hx (hb hby at_251) (q := 252) rfl ?_
        exact kk615 _ _ _ .null rfl (X602.more (by decide) (by decide)) e602 (Keep.refl h602 []) N602
      · refine ifN X602 hx (hb hby at_234) (q := 237) rfl ((if0 _ _).trans (feq hc616).1) ?_
        refine g_new X602 hx hZ0 hown0 (wd162 hw) (wd163 hw) (wd164 hw) (by decide) (by decide) e602 (hb hby at_237) (q := 240) rfl ?_
        intro T618 h618 b618 g618 X618 e618 E618 A618 D618
        have F618_170 := D618 (Or.inr (wd170 hw)) (ty := (.object "java/lang/String")) (by decide)
        have F618_172 := D618 (Or.inr (wd172 hw)) (ty := (.object "java/lang/String")) (by decide)
        refine g_dup X618 hx (hb hby at_240) (q := 241) rfl rfl ?_
        refine aLw X618 hx (hb hby at_241) (q := 243) rfl rfl rfl ?_
        refine aLw X618 hx (hb hby at_243) (q := 245) rfl rfl rfl ?_
        have f624 : Old Z Z.heap.size T598.heap := f601.keep K598q (allS gz599 all0)
        have f625 : Old Z Z.heap.size h602 := f624.keep K602q all0
        have gz623 : Z.heap.size ≤ b618 := Nat.le_trans f625.2.1 (Nat.le_of_eq g618.symm)
        have f626 : Old Z Z.heap.size h618 := f625.ext E618
        refine g_sp X618 hx hZ0 hown0 (wd165 hw) (wd166 hw) (wd167 hw) rfl (by decide) e618 (Con.back (W := 1) (rm_wdinit l Z a0 hw zC SC PC aE SE aD SD aM SM mO MO b618 b561 b538 h618 f626 A618 F618_170 F618_172 gz623) hZ0 (wd167 hw) (wd164 hw) (by decide) (by decide)) (by rw [hml]; rfl) (lenOf pd17 rfl) rfl (Nat.le_of_eq rfl) (hb hby at_245) (q := 248) rfl (by decide) (by decide) ?_
        intro v622 T622 L622 X622 Q622
        obtain ⟨rfl, Nq622, K622q, q622_0⟩ := Q622
        have N622 := Fr.app N602 Nq622
        show Go _ _ _ _ (T622.setTop (mkF m 248 #[.val (.int p0), .val (.int p1), .val (.int p2), .val (.int p3), .val (.int p4), .val (.int p5), .val (.ref b491), .val ov512, .val (.ref b538), .val (.ref b561), .val (.int (0 : Int32)), .val (.ref b581), .val (.ref b588), .val (.ref b595), .val ov602, .unset, .unset, .unset, .unset, .unset] [(.ref b618)]))
        refine g_goto X622 hx (hb hby at_248) (q := 252) (by decide) (by decide) ?_
        have K628 : Keep h602 h618 [] := (Keep.refl h602 []).ext E618
        have K629 : Keep h602 T622.heap [] := K628.trans K622q (allS (Or.inr (Nat.le_trans (Nat.le_refl _) (Nat.le_of_eq g618.symm))) all0)
        exact kk615 _ _ _ (.ref b618) rfl (X622.more (by decide) (by decide)) rfl K629 N622
    intro T615 h615 L615 ov615 r615 X615 e615 K615q N615
    show Go _ _ _ _ (T615.setTop (mkF m 252 #[.val (.int p0), .val (.int p1), .val (.int p2), .val (.int p3), .val (.int p4), .val (.int p5), .val (.ref b491), .val ov512, .val (.ref b538), .val (.ref b561), .val (.int (0 : Int32)), .val (.ref b581), .val (.ref b588), .val (.ref b595), .val ov602, .unset, .unset, .unset, .unset, .unset] [ov615]))
    refine sAw X615 hx (hb hby at_252) (q := 254) rfl r615 (Ls' := #[.val (.int p0), .val (.int p1), .val (.int p2), .val (.int p3), .val (.int p4), .val (.int p5), .val (.ref b491), .val ov512, .val (.ref b538), .val (.ref b561), .val (.int (0 : Int32)), .val (.ref b581), .val (.ref b588), .val (.ref b595), .val ov602, .val ov615, .unset, .unset, .unset, .unset]) (by rcases ref_cases r615 with q | ⟨_, q⟩ <;> (rw [q]; rfl)) ?_
    refine g_new X615 hx hZ0 hown0 (wd72 hw) (wd73 hw) (wd74 hw) (by decide) (by decide) e615 (hb hby at_254) (q := 257) rfl ?_
    intro T630 h630 b630 g630 X630 e630 E630 A630 D630
    have F630_109 := D630 (Or.inr (wd109 hw)) (ty := (.object "java/lang/String")) (by decide)
    have F630_111 := D630 (Or.inr (wd111 hw)) (ty := (.object "java/util/List")) (by decide)
    have F630_113 := D630 (Or.inr (wd113 hw)) (ty := (.object "java/lang/String")) (by decide)
    have F630_115 := D630 (Or.inr (wd115 hw)) (ty := (.object "com/example/quaymark/quaymark/Review$Withdrawal")) (by decide)
    refine g_dup X630 hx (hb hby at_257) (q := 258) rfl rfl ?_
    refine aLw X630 hx (hb hby at_258) (q := 260) rfl rfl rfl ?_
    refine aLw X630 hx (hb hby at_260) (q := 262) rfl rfl rfl ?_
    refine aLw X630 hx (hb hby at_262) (q := 264) rfl rfl r512 ?_
    refine aLw X630 hx (hb hby at_264) (q := 266) rfl rfl r602 ?_
    have f647 : Old Z Z.heap.size T598.heap := f601.keep K598q (allS gz599 all0)
    have f648 : Old Z Z.heap.size h602 := f647.keep K602q all0
    have f649 : Old Z Z.heap.size h615 := f648.keep K615q all0
    have gz646 : Z.heap.size ≤ b630 := Nat.le_trans f649.2.1 (Nat.le_of_eq g630.symm)
    have f650 : Exa Z h602 b595 "java/util/ArrayList" := q598_0.keep K602q
    have f651 : Exa Z h615 b595 "java/util/ArrayList" := f650.keep K615q
    have f652 : Exa Z h630 b595 "java/util/ArrayList" := f651.ext E630
    have f653 : Fld Z h602 b595 "java/util/ArrayList" "size" "I" (.int (0 : Int32)) := q598_2.keep K602q nin0
    have f654 : Fld Z h615 b595 "java/util/ArrayList" "size" "I" (.int (0 : Int32)) := f653.keep K615q nin0
    have f655 : Fld Z h630 b595 "java/util/ArrayList" "size" "I" (.int (0 : Int32)) := f654.ext E630
    have f656 : Old Z Z.heap.size h630 := f649.ext E630
    refine g_sp X630 hx hZ0 hown0 (wd75 hw) (wd76 hw) (wd77 hw) rfl (by decide) e630 (Con.back (W := 1) (rm_rv0 l Z a0 hw zC SC PC aE SE aD SD aM SM mO MO b630 b491 ov512 ov602 b595 h630 f656 A630 F630_109 F630_111 F630_113 F630_115 gz646 r512 r602 f652 f655) hZ0 (wd77 hw) (wd74 hw) (by decide) (by decide)) (by rw [hml]; rfl) (lenOf pd14 rfl) rfl (Nat.le_of_eq rfl) (hb hby at_266) (q := 269) rfl (by decide) (by decide) ?_
    intro v645 T645 L645 X645 Q645
    obtain ⟨rfl, Nq645, K645q, q645_0, q645_1, q645_2, q645_3, q645_4⟩ := Q645
    have N645 := Fr.app N615 Nq645
    show Go _ _ _ _ (T645.setTop (mkF m 269 #[.val (.int p0), .val (.int p1), .val (.int p2), .val (.int p3), .val (.int p4), .val (.int p5), .val (.ref b491), .val ov512, .val (.ref b538), .val (.ref b561), .val (.int (0 : Int32)), .val (.ref b581), .val (.ref b588), .val (.ref b595), .val ov602, .val ov615, .unset, .unset, .unset, .unset] [(.ref b630)]))
    refine sAw X645 hx (hb hby at_269) (q := 271) rfl rfl (Ls' := #[.val (.int p0), .val (.int p1), .val (.int p2), .val (.int p3), .val (.int p4), .val (.int p5), .val (.ref b491), .val ov512, .val (.ref b538), .val (.ref b561), .val (.int (0 : Int32)), .val (.ref b581), .val (.ref b588), .val (.ref b595), .val ov602, .val ov615, .val (.ref b630), .unset, .unset, .unset]) rfl ?_
    refine aLw X645 hx (hb hby at_271) (q := 273) rfl rfl rfl ?_
    refine aLw X645 hx (hb hby at_273) (q := 275) rfl rfl r615 ?_
    have f801 : Exa Z h491 aE "java/util/ImmutableCollections$ListN" := PE1.ext E491
    have f802 : Exa Z h492 aE "java/util/ImmutableCollections$ListN" := f801.ext E492
    have f803 : Exa Z h493 aE "java/util/ImmutableCollections$ListN" := f802.wr W493
    have f804 : Exa Z h496 aE "java/util/ImmutableCollections$ListN" := f803.wr W496
    have f805 : Exa Z T497.heap aE "java/util/ImmutableCollections$ListN" := f804.keep K497q
    have f806 : Exa Z h512 aE "java/util/ImmutableCollections$ListN" := f805.keep K512q
    have f807 : Exa Z h538 aE "java/util/ImmutableCollections$ListN" := f806.ext E538
    have f808 : Exa Z h539 aE "java/util/ImmutableCollections$ListN" := f807.ext E539
    have f809 : Exa Z h540 aE "java/util/ImmutableCollections$ListN" := f808.wr W540
    have f810 : Exa Z h545 aE "java/util/ImmutableCollections$ListN" := f809.wr W545
    have f811 : Exa Z T546.heap aE "java/util/ImmutableCollections$ListN" := f810.keep K546q
    have f812 : Exa Z h561 aE "java/util/ImmutableCollections$ListN" := f811.ext E561
    have f813 : Exa Z h562 aE "java/util/ImmutableCollections$ListN" := f812.ext E562
    have f814 : Exa Z h563 aE "java/util/ImmutableCollections$ListN" := f813.wr W563
    have f815 : Exa Z T567.heap aE "java/util/ImmutableCollections$ListN" := f814.keep K567q
    have f816 : Exa Z h581 aE "java/util/ImmutableCollections$ListN" := f815.ext E581
    have f817 : Exa Z T584.heap aE "java/util/ImmutableCollections$ListN" := f816.keep K584q
    have f818 : Exa Z h588 aE "java/util/ImmutableCollections$ListN" := f817.ext E588
    have f819 : Exa Z T591.heap aE "java/util/ImmutableCollections$ListN" := f818.keep K591q
    have f820 : Exa Z h595 aE "java/util/ImmutableCollections$ListN" := f819.ext E595
    have f821 : Exa Z T598.heap aE "java/util/ImmutableCollections$ListN" := f820.keep K598q
    have f822 : Exa Z h602 aE "java/util/ImmutableCollections$ListN" := f821.keep K602q
    have f823 : Exa Z h615 aE "java/util/ImmutableCollections$ListN" := f822.keep K615q
    have f824 : Exa Z h630 aE "java/util/ImmutableCollections$ListN" := f823.ext E630
    have f825 : Exa Z T645.heap aE "java/util/ImmutableCollections$ListN" := f824.keep K645q
    have f826 : Fld Z h491 aE "java/util/ImmutableCollections$ListN" "elements" "[Ljava/lang/Object;" (.ref eA) := PE2.ext E491
    have f827 : Fld Z h492 aE "java/util/ImmutableCollections$ListN" "elements" "[Ljava/lang/Object;" (.ref eA) := f826.ext E492
    have le828 : (h0).size ≤ (h491).size := E491.1
    have ne829 : aE ≠ b492 := (Nat.ne_of_lt (Nat.lt_of_lt_of_le (Nat.lt_of_lt_of_le PE1.lt le828) (Nat.le_of_eq g492.symm)))
    have f830 : Fld Z h493 aE "java/util/ImmutableCollections$ListN" "elements" "[Ljava/lang/Object;" (.ref eA) := f827.other W493 (Or.inl ne829)
    have f831 : Fld Z h496 aE "java/util/ImmutableCollections$ListN" "elements" "[Ljava/lang/Object;" (.ref eA) := f830.other W496 (Or.inl ne829)
    have ne832 : aE ≠ b491 := (Nat.ne_of_lt (Nat.lt_of_lt_of_le (Nat.lt_of_lt_of_le PE1.lt (Nat.le_refl _)) (Nat.le_of_eq g491.symm)))
    have f833 : Fld Z T497.heap aE "java/util/ImmutableCollections$ListN" "elements" "[Ljava/lang/Object;" (.ref eA) := f831.keep K497q (ninS ne832 nin0)
    have f834 : Fld Z h512 aE "java/util/ImmutableCollections$ListN" "elements" "[Ljava/lang/Object;" (.ref eA) := f833.keep K512q nin0
    have f835 : Fld Z h538 aE "java/util/ImmutableCollections$ListN" "elements" "[Ljava/lang/Object;" (.ref eA) := f834.ext E538
    have f836 : Fld Z h539 aE "java/util/ImmutableCollections$ListN" "elements" "[Ljava/lang/Object;" (.ref eA) := f835.ext E539
    have le837 : (h0).size ≤ (h492).size := (Nat.le_trans le828 E492.1)
    have le838 : (h0).size ≤ (h493).size := (Nat.le_trans le837 (Nat.le_of_eq (Wr.size W493).symm))
    have le839 : (h0).size ≤ (h496).size := (Nat.le_trans le838 (Nat.le_of_eq (Wr.size W496).symm))
    have le840 : (h0).size ≤ (T497.heap).size := (Nat.le_trans le839 K497q.1)
    have le841 : (h0).size ≤ (h512).size := (Nat.le_trans le840 K512q.1)
    have le842 : (h0).size ≤ (h538).size := (Nat.le_trans le841 E538.1)
    have ne843 : aE ≠ b539 := (Nat.ne_of_lt (Nat.lt_of_lt_of_le (Nat.lt_of_lt_of_le PE1.lt le842) (Nat.le_of_eq g539.symm)))
    have f844 : Fld Z h540 aE "java/util/ImmutableCollections$ListN" "elements" "[Ljava/lang/Object;" (.ref eA) := f836.other W540 (Or.inl ne843)
    have f845 : Fld Z h545 aE "java/util/ImmutableCollections$ListN" "elements" "[Ljava/lang/Object;" (.ref eA) := f844.other W545 (Or.inl ne843)
    have ne846 : aE ≠ b538 := (Nat.ne_of_lt (Nat.lt_of_lt_of_le (Nat.lt_of_lt_of_le PE1.lt le841) (Nat.le_of_eq g538.symm)))
    have f847 : Fld Z T546.heap aE "java/util/ImmutableCollections$ListN" "elements" "[Ljava/lang/Object;" (.ref eA) := f845.keep K546q (ninS ne846 nin0)
    have f848 : Fld Z h561 aE "java/util/ImmutableCollections$ListN" "elements" "[Ljava/lang/Object;" (.ref eA) := f847.ext E561
    have f849 : Fld Z h562 aE "java/util/ImmutableCollections$ListN" "elements" "[Ljava/lang/Object;" (.ref eA) := f848.ext E562
    have le850 : (h0).size ≤ (h539).size := (Nat.le_trans le842 E539.1)
    have le851 : (h0).size ≤ (h540).size := (Nat.le_trans le850 (Nat.le_of_eq (Wr.size W540).symm))
    have le852 : (h0).size ≤ (h545).size := (Nat.le_trans le851 (Nat.le_of_eq (Wr.size W545).symm))
    have le853 : (h0).size ≤ (T546.heap).size := (Nat.le_trans le852 K546q.1)
    have le854 : (h0).size ≤ (h561).size := (Nat.le_trans le853 E561.1)
    have ne855 : aE ≠ b562 := (Nat.ne_of_lt (Nat.lt_of_lt_of_le (Nat.lt_of_lt_of_le PE1.lt le854) (Nat.le_of_eq g562.symm)))
    have f856 : Fld Z h563 aE "java/util/ImmutableCollections$ListN" "elements" "[Ljava/lang/Object;" (.ref eA) := f849.other W563 (Or.inl ne855)
    have ne857 : aE ≠ b561 := (Nat.ne_of_lt (Nat.lt_of_lt_of_le (Nat.lt_of_lt_of_le PE1.lt le853) (Nat.le_of_eq g561.symm)))
    have f858 : Fld Z T567.heap aE "java/util/ImmutableCollections$ListN" "elements" "[Ljava/lang/Object;" (.ref eA) := f856.keep K567q (ninS ne857 nin0)
    have f859 : Fld Z h581 aE "java/util/ImmutableCollections$ListN" "elements" "[Ljava/lang/Object;" (.ref eA) := f858.ext E581
    have le860 : (h0).size ≤ (h562).size := (Nat.le_trans le854 E562.1)
    have le861 : (h0).size ≤ (h563).size := (Nat.le_trans le860 (Nat.le_of_eq (Wr.size W563).symm))
    have le862 : (h0).size ≤ (T567.heap).size := (Nat.le_trans le861 K567q.1)
    have ne863 : aE ≠ b581 := (Nat.ne_of_lt (Nat.lt_of_lt_of_le (Nat.lt_of_lt_of_le PE1.lt le862) (Nat.le_of_eq g581.symm)))
    have f864 : Fld Z T584.heap aE "java/util/ImmutableCollections$ListN" "elements" "[Ljava/lang/Object;" (.ref eA) := f859.keep K584q (ninS ne863 nin0)
    have f865 : Fld Z h588 aE "java/util/ImmutableCollections$ListN" "elements" "[Ljava/lang/Object;" (.ref eA) := f864.ext E588
    have le866 : (h0).size ≤ (h581).size := (Nat.le_trans le862 E581.1)
    have le867 : (h0).size ≤ (T584.heap).size := (Nat.le_trans le866 K584q.1)
    have ne868 : aE ≠ b588 := (Nat.ne_of_lt (Nat.lt_of_lt_of_le (Nat.lt_of_lt_of_le PE1.lt le867) (Nat.le_of_eq g588.symm)))
    have f869 : Fld Z T591.heap aE "java/util/ImmutableCollections$ListN" "elements" "[Ljava/lang/Object;" (.ref eA) := f865.keep K591q (ninS ne868 nin0)
    have f870 : Fld Z h595 aE "java/util/ImmutableCollections$ListN" "elements" "[Ljava/lang/Object;" (.ref eA) := f869.ext E595
    have le871 : (h0).size ≤ (h588).size := (Nat.le_trans le867 E588.1)
    have le872 : (h0).size ≤ (T591.heap).size := (Nat.le_trans le871 K591q.1)
    have ne873 : aE ≠ b595 := (Nat.ne_of_lt (Nat.lt_of_lt_of_le (Nat.lt_of_lt_of_le PE1.lt le872) (Nat.le_of_eq g595.symm)))
    have f874 : Fld Z T598.heap aE "java/util/ImmutableCollections$ListN" "elements" "[Ljava/lang/Object;" (.ref eA) := f870.keep K598q (ninS ne873 nin0)
    have f875 : Fld Z h602 aE "java/util/ImmutableCollections$ListN" "elements" "[Ljava/lang/Object;" (.ref eA) := f874.keep K602q nin0
    have f876 : Fld Z h615 aE "java/util/ImmutableCollections$ListN" "elements" "[Ljava/lang/Object;" (.ref eA) := f875.keep K615q nin0
    have f877 : Fld Z h630 aE "java/util/ImmutableCollections$ListN" "elements" "[Ljava/lang/Object;" (.ref eA) := f876.ext E630
    have le878 : (h0).size ≤ (h595).size := (Nat.le_trans le872 E595.1)
    have le879 : (h0).size ≤ (T598.heap).size := (Nat.le_trans le878 K598q.1)
    have le880 : (h0).size ≤ (h602).size := (Nat.le_trans le879 K602q.1)
    have le881 : (h0).size ≤ (h615).size := (Nat.le_trans le880 K615q.1)
    have ne882 : aE ≠ b630 := (Nat.ne_of_lt (Nat.lt_of_lt_of_le (Nat.lt_of_lt_of_le PE1.lt le881) (Nat.le_of_eq g630.symm)))
    have f883 : Fld Z T645.heap aE "java/util/ImmutableCollections$ListN" "elements" "[Ljava/lang/Object;" (.ref eA) := f877.keep K645q (ninS ne882 nin0)
    have f884 : Arv Z h491 eA eK (.object "java/lang/Object") (0 : Int32) eL .null := PE3.ext E491
    have f885 : Arv Z h492 eA eK (.object "java/lang/Object") (0 : Int32) eL .null := f884.ext E492
    have ne886 : eA ≠ b492 := (Nat.ne_of_lt (Nat.lt_of_lt_of_le (Nat.lt_of_lt_of_le PE3.lt le828) (Nat.le_of_eq g492.symm)))
    have f887 : Arv Z h493 eA eK (.object "java/lang/Object") (0 : Int32) eL .null := f885.other W493 ne886
    have f888 : Arv Z h496 eA eK (.object "java/lang/Object") (0 : Int32) eL .null := f887.other W496 ne886
    have ne889 : eA ≠ b491 := (Nat.ne_of_lt (Nat.lt_of_lt_of_le (Nat.lt_of_lt_of_le PE3.lt (Nat.le_refl _)) (Nat.le_of_eq g491.symm)))
    have f890 : Arv Z T497.heap eA eK (.object "java/lang/Object") (0 : Int32) eL .null := f888.keep K497q (ninS ne889 nin0)
    have f891 : Arv Z h512 eA eK (.object "java/lang/Object") (0 : Int32) eL .null := f890.keep K512q nin0
    have f892 : Arv Z h538 eA eK (.object "java/lang/Object") (0 : Int32) eL .null := f891.ext E538
    have f893 : Arv Z h539 eA eK (.object "java/lang/Object") (0 : Int32) eL .null := f892.ext E539
    have ne894 : eA ≠ b539 := (Nat.ne_of_lt (Nat.lt_of_lt_of_le (Nat.lt_of_lt_of_le PE3.lt le842) (Nat.le_of_eq g539.symm)))
    have f895 : Arv Z h540 eA eK (.object "java/lang/Object") (0 : Int32) eL .null := f893.other W540 ne894
    have f896 : Arv Z h545 eA eK (.object "java/lang/Object") (0 : Int32) eL .null := f895.other W545 ne894
    have ne897 : eA ≠ b538 := (Nat.ne_of_lt (Nat.lt_of_lt_of_le (Nat.lt_of_lt_of_le PE3.lt le841) (Nat.le_of_eq g538.symm)))
    have f898 : Arv Z T546.heap eA eK (.object "java/lang/Object") (0 : Int32) eL .null := f896.keep K546q (ninS ne897 nin0)
    have f899 : Arv Z h561 eA eK (.object "java/lang/Object") (0 : Int32) eL .null := f898.ext E561
    have f900 : Arv Z h562 eA eK (.object "java/lang/Object") (0 : Int32) eL .null := f899.ext E562
    have ne901 : eA ≠ b562 := (Nat.ne_of_lt (Nat.lt_of_lt_of_le (Nat.lt_of_lt_of_le PE3.lt le854) (Nat.le_of_eq g562.symm)))
    have f902 : Arv Z h563 eA eK (.object "java/lang/Object") (0 : Int32) eL .null := f900.other W563 ne901
    have ne903 : eA ≠ b561 := (Nat.ne_of_lt (Nat.lt_of_lt_of_le (Nat.lt_of_lt_of_le PE3.lt le853) (Nat.le_of_eq g561.symm)))
    have f904 : Arv Z T567.heap eA eK (.object "java/lang/Object") (0 : Int32) eL .null := f902.keep K567q (ninS ne903 nin0)
    have f905 : Arv Z h581 eA eK (.object "java/lang/Object") (0 : Int32) eL .null := f904.ext E581
    have ne906 : eA ≠ b581 := (Nat.ne_of_lt (Nat.lt_of_lt_of_le (Nat.lt_of_lt_of_le PE3.lt le862) (Nat.le_of_eq g581.symm)))
    have f907 : Arv Z T584.heap eA eK (.object "java/lang/Object") (0 : Int32) eL .null := f905.keep K584q (ninS ne906 nin0)
    have f908 : Arv Z h588 eA eK (.object "java/lang/Object") (0 : Int32) eL .null := f907.ext E588
    have ne909 : eA ≠ b588 := (Nat.ne_of_lt (Nat.lt_of_lt_of_le (Nat.lt_of_lt_of_le PE3.lt le867) (Nat.le_of_eq g588.symm)))
    have f910 : Arv Z T591.heap eA eK (.object "java/lang/Object") (0 : Int32) eL .null := f908.keep K591q (ninS ne909 nin0)
    have f911 : Arv Z h595 eA eK (.object "java/lang/Object") (0 : Int32) eL .null := f910.ext E595
    have ne912 : eA ≠ b595 := (Nat.ne_of_lt (Nat.lt_of_lt_of_le (Nat.lt_of_lt_of_le PE3.lt le872) (Nat.le_of_eq g595.symm)))
    have f913 : Arv Z T598.heap eA eK (.object "java/lang/Object") (0 : Int32) eL .null := f911.keep K598q (ninS ne912 nin0)
    have f914 : Arv Z h602 eA eK (.object "java/lang/Object") (0 : Int32) eL .null := f913.keep K602q nin0
    have f915 : Arv Z h615 eA eK (.object "java/lang/Object") (0 : Int32) eL .null := f914.keep K615q nin0
    have f916 : Arv Z h630 eA eK (.object "java/lang/Object") (0 : Int32) eL .null := f915.ext E630
    have ne917 : eA ≠ b630 := (Nat.ne_of_lt (Nat.lt_of_lt_of_le (Nat.lt_of_lt_of_le PE3.lt le881) (Nat.le_of_eq g630.symm)))
    have f918 : Arv Z T645.heap eA eK (.object "java/lang/Object") (0 : Int32) eL .null := f916.keep K645q (ninS ne917 nin0)
    have f919 : Fld Z h491 aE "java/util/ImmutableCollections$ListN" "allowNulls" "Z" (.int (0 : Int32)) := PE4.ext E491
    have f920 : Fld Z h492 aE "java/util/ImmutableCollections$ListN" "allowNulls" "Z" (.int (0 : Int32)) := f919.ext E492
    have f921 : Fld Z h493 aE "java/util/ImmutableCollections$ListN" "allowNulls" "Z" (.int (0 : Int32)) := f920.other W493 (Or.inl ne829)
    have f922 : Fld Z h496 aE "java/util/ImmutableCollections$ListN" "allowNulls" "Z" (.int (0 : Int32)) := f921.other W496 (Or.inl ne829)
    have f923 : Fld Z T497.heap aE "java/util/ImmutableCollections$ListN" "allowNulls" "Z" (.int (0 : Int32)) := f922.keep K497q (ninS ne832 nin0)
    have f924 : Fld Z h512 aE "java/util/ImmutableCollections$ListN" "allowNulls" "Z" (.int (0 : Int32)) := f923.keep K512q nin0
    have f925 : Fld Z h538 aE "java/util/ImmutableCollections$ListN" "allowNulls" "Z" (.int (0 : Int32)) := f924.ext E538
    have f926 : Fld Z h539 aE "java/util/ImmutableCollections$ListN" "allowNulls" "Z" (.int (0 : Int32)) := f925.ext E539
    have f927 : Fld Z h540 aE "java/util/ImmutableCollections$ListN" "allowNulls" "Z" (.int (0 : Int32)) := f926.other W540 (Or.inl ne843)
    have f928 : Fld Z h545 aE "java/util/ImmutableCollections$ListN" "allowNulls" "Z" (.int (0 : Int32)) := f927.other W545 (Or.inl ne843)
    have f929 : Fld Z T546.heap aE "java/util/ImmutableCollections$ListN" "allowNulls" "Z" (.int (0 : Int32)) := f928.keep K546q (ninS ne846 nin0)
    have f930 : Fld Z h561 aE "java/util/ImmutableCollections$ListN" "allowNulls" "Z" (.int (0 : Int32)) := f929.ext E561
    have f931 : Fld Z h562 aE "java/util/ImmutableCollections$ListN" "allowNulls" "Z" (.int (0 : Int32)) := f930.ext E562
    have f932 : Fld Z h563 aE "java/util/ImmutableCollections$ListN" "allowNulls" "Z" (.int (0 : Int32)) := f931.other W563 (Or.inl ne855)
    have f933 : Fld Z T567.heap aE "java/util/ImmutableCollections$ListN" "allowNulls" "Z" (.int (0 : Int32)) := f932.keep K567q (ninS ne857 nin0)
    have f934 : Fld Z h581 aE "java/util/ImmutableCollections$ListN" "allowNulls" "Z" (.int (0 : Int32)) := f933.ext E581
    have f935 : Fld Z T584.heap aE "java/util/ImmutableCollections$ListN" "allowNulls" "Z" (.int (0 : Int32)) := f934.keep K584q (ninS ne863 nin0)
    have f936 : Fld Z h588 aE "java/util/ImmutableCollections$ListN" "allowNulls" "Z" (.int (0 : Int32)) := f935.ext E588
    have f937 : Fld Z T591.heap aE "java/util/ImmutableCollections$ListN" "allowNulls" "Z" (.int (0 : Int32)) := f936.keep K591q (ninS ne868 nin0)
    have f938 : Fld Z h595 aE "java/util/ImmutableCollections$ListN" "allowNulls" "Z" (.int (0 : Int32)) := f937.ext E595
    have f939 : Fld Z T598.heap aE "java/util/ImmutableCollections$ListN" "allowNulls" "Z" (.int (0 : Int32)) := f938.keep K598q (ninS ne873 nin0)
    have f940 : Fld Z h602 aE "java/util/ImmutableCollections$ListN" "allowNulls" "Z" (.int (0 : Int32)) := f939.keep K602q nin0
    have f941 : Fld Z h615 aE "java/util/ImmutableCollections$ListN" "allowNulls" "Z" (.int (0 : Int32)) := f940.keep K615q nin0
    have f942 : Fld Z h630 aE "java/util/ImmutableCollections$ListN" "allowNulls" "Z" (.int (0 : Int32)) := f941.ext E630
    have f943 : Fld Z T645.heap aE "java/util/ImmutableCollections$ListN" "allowNulls" "Z" (.int (0 : Int32)) := f942.keep K645q (ninS ne882 nin0)
    have f944 : Old Z Z.heap.size T645.heap := f656.keep K645q (allS gz646 all0)
    refine g_vi X645 hx hZ0 hown0 (wd116 hw) (wd117 hw) (notFace_of_selects (args := #[]) (mvT hZ0 (wd119 hw))) (wd119 hw) (wd118 hw) (by decide) q645_0 rfl (Con.back (W := 0) (rm_withdrawing l Z a0 hw zC SC PC aE SE aD SD aM SM mO MO b630 b491 ov615 eA eK eL T645.heap f944 q645_1 q645_2 r615 f825 f883 f918 f943) hZ0 (wd120 hw) (wd74 hw) (by decide) (by decide)) (by rw [hml]; rfl) (lenOf pd18 rfl) rfl (Nat.le_of_eq rfl) (hb hby at_275) (q := 278) rfl (by decide) (by decide) ?_
    intro v800 T800 L800 X800 Q800
    obtain ⟨r_800, rfl, Nq800, K800q, q800_0, q800_1, q800_2, q800_3, q800_4, q800_5⟩ := Q800
    have N800 := Fr.app N645 Nq800
    show Go _ _ _ _ (T800.setTop (mkF m 278 #[.val (.int p0), .val (.int p1), .val (.int p2), .val (.int p3), .val (.int p4), .val (.int p5), .val (.ref b491), .val ov512, .val (.ref b538), .val (.ref b561), .val (.int (0 : Int32)), .val (.ref b581), .val (.ref b588), .val (.ref b595), .val ov602, .val ov615, .val (.ref b630), .unset, .unset, .unset] [(.ref r_800)]))
    refine sAw X800 hx (hb hby at_278) (q := 280) rfl rfl (Ls' := #[.val (.int p0), .val (.int p1), .val (.int p2), .val (.int p3), .val (.int p4), .val (.int p5), .val (.ref b491), .val ov512, .val (.ref b538), .val (.ref b561), .val (.int (0 : Int32)), .val (.ref b581), .val (.ref b588), .val (.ref b595), .val ov602, .val ov615, .val (.ref b630), .val (.ref r_800), .unset, .unset]) rfl ?_
    refine aLw X800 hx (hb hby at_280) (q := 282) rfl rfl rfl ?_
    have f946 : Old Z Z.heap.size T800.heap := f944.keep K800q all0
    refine g_vi X800 hx hZ0 hown0 (wd131 hw) (wd132 hw) (notFace_of_selects (args := #[]) (mvT hZ0 (wd134 hw))) (wd134 hw) (wd133 hw) (by decide) q800_1 rfl (Con.back (W := 0) (rm_get_leftOut l Z a0 hw zC SC PC aE SE aD SD aM SM mO MO r_800 aE T800.heap f946 q800_3) hZ0 (wd135 hw) (wd74 hw) (by decide) (by decide)) (by rw [hml]; rfl) (lenOf pd13 rfl) rfl (Nat.le_of_eq rfl) (hb hby at_282) (q := 285) rfl (by decide) (by decide) ?_
    intro v945 T945 L945 X945 Q945
    obtain ⟨rfl, Nq945, e945⟩ := Q945
    have N945 := Fr.app N800 Nq945
    show Go _ _ _ _ (T945.setTop (mkF m 285 #[.val (.int p0), .val (.int p1), .val (.int p2), .val (.int p3), .val (.int p4), .val (.int p5), .val (.ref b491), .val ov512, .val (.ref b538), .val (.ref b561), .val (.int (0 : Int32)), .val (.ref b581), .val (.ref b588), .val (.ref b595), .val ov602, .val ov615, .val (.ref b630), .val (.ref r_800), .unset, .unset] [(.ref aE)]))
    refine sAw X945 hx (hb hby at_285) (q := 287) rfl rfl (Ls' := #[.val (.int p0), .val (.int p1), .val (.int p2), .val (.int p3), .val (.int p4), .val (.int p5), .val (.ref b491), .val ov512, .val (.ref b538), .val (.ref b561), .val (.int (0 : Int32)), .val (.ref b581), .val (.ref b588), .val (.ref b595), .val ov602, .val ov615, .val (.ref b630), .val (.ref r_800), .val (.ref aE), .unset]) rfl ?_
    refine aLw X945 hx (hb hby at_287) (q := 289) rfl rfl rfl ?_
    have f952 : Exa Z T800.heap aE "java/util/ImmutableCollections$ListN" := f825.keep K800q
    have f953 : Fld Z T800.heap aE "java/util/ImmutableCollections$ListN" "elements" "[Ljava/lang/Object;" (.ref eA) := f883.keep K800q nin0
    have f954 : Arv Z T800.heap eA eK (.object "java/lang/Object") (0 : Int32) eL .null := f918.keep K800q nin0
    have f955 : Fld Z T800.heap aE "java/util/ImmutableCollections$ListN" "allowNulls" "Z" (.int (0 : Int32)) := f943.keep K800q nin0
    refine g_if X945 hx hZ0 hown0 (wd136 hw) (wd137 hw) (wd138 hw) rfl (wd139 hw) (wd140 hw) (wd141 hw) (wd142 hw) (wd130 hw) (by decide) f952 e945 (Con.back (W := 0) (rm_lnsize l Z a0 hw zC SC PC aE SE aD SD aM SM mO MO eA eK eL T800.heap f946 f952 f953 f954 f955) hZ0 (wd144 hw) (wd143 hw) (by decide) (by decide)) (by rw [hml]; rfl) (lenOf pd19 rfl) rfl (Nat.le_of_eq rfl) (hb hby at_289) (q := 294) rfl (by decide) (by decide) ?_
    intro v951 T951 L951 X951 Q951
    obtain ⟨rfl, Nq951, e951⟩ := Q951
    have N951 := Fr.app N945 Nq951
    show Go _ _ _ _ (T951.setTop (mkF m 294 #[.val (.int p0), .val (.int p1), .val (.int p2), .val (.int p3), .val (.int p4), .val (.int p5), .val (.ref b491), .val ov512, .val (.ref b538), .val (.ref b561), .val (.int (0 : Int32)), .val (.ref b581), .val (.ref b588), .val (.ref b595), .val ov602, .val ov615, .val (.ref b630), .val (.ref r_800), .val (.ref aE), .unset] [(.int (0 : Int32))]))
    refine iLw X951 hx (hb hby at_294) (q := 296) rfl rfl ?_
    refine icN X951 hx (hb hby at_296) (q := 299) rfl (by decide) ?_
    refine iLw X951 hx (hb hby at_299) (q := 301) rfl rfl ?_
    refine cI X951 hx (hb hby at_301) (q := 302) rfl (z := (1 : Int32)) rfl ?_
    refine icY X951 hx (hb hby at_302) (q := 318) (by decide) (by decide) (by decide) ?_
    refine iLw X951 hx (hb hby at_318) (q := 320) rfl rfl ?_
    refine cI X951 hx (hb hby at_320) (q := 321) rfl (z := (2 : Int32)) rfl ?_
    refine icY X951 hx (hb hby at_321) (q := 337) (by decide) (by decide) (by decide) ?_
    refine cI X951 hx (hb hby at_337) (q := 338) rfl (z := (1 : Int32)) rfl ?_
    refine g_goto X951 hx (hb hby at_338) (q := 342) (by decide) (by decide) ?_
    refine sIw X951 hx (hb hby at_342) (q := 344) rfl (Ls' := #[.val (.int p0), .val (.int p1), .val (.int p2), .val (.int p3), .val (.int p4), .val (.int p5), .val (.ref b491), .val ov512, .val (.ref b538), .val (.ref b561), .val (.int (0 : Int32)), .val (.ref b581), .val (.ref b588), .val (.ref b595), .val ov602, .val ov615, .val (.ref b630), .val (.ref r_800), .val (.ref aE), .val (.int (1 : Int32))]) rfl ?_
    refine aLw X951 hx (hb hby at_344) (q := 346) rfl rfl rfl ?_
    refine g_vi X951 hx hZ0 hown0 (wd147 hw) (wd148 hw) (notFace_of_selects (args := #[]) (mvT hZ0 (wd150 hw))) (wd150 hw) (wd149 hw) (by decide) q800_1 e951 (Con.back (W := 0) (rm_get_submittedBy l Z a0 hw zC SC PC aE SE aD SD aM SM mO MO r_800 b491 T800.heap f946 q800_2) hZ0 (wd151 hw) (wd74 hw) (by decide) (by decide)) (by rw [hml]; rfl) (lenOf pd20 rfl) rfl (Nat.le_of_eq rfl) (hb hby at_346) (q := 349) rfl (by decide) (by decide) ?_
    intro v956 T956 L956 X956 Q956
    obtain ⟨rfl, Nq956, e956⟩ := Q956
    have N956 := Fr.app N951 Nq956
    show Go _ _ _ _ (T956.setTop (mkF m 349 #[.val (.int p0), .val (.int p1), .val (.int p2), .val (.int p3), .val (.int p4), .val (.int p5), .val (.ref b491), .val ov512, .val (.ref b538), .val (.ref b561), .val (.int (0 : Int32)), .val (.ref b581), .val (.ref b588), .val (.ref b595), .val ov602, .val ov615, .val (.ref b630), .val (.ref r_800), .val (.ref aE), .val (.int (1 : Int32))] [(.ref b491)]))
    refine aLw X956 hx (hb hby at_349) (q := 351) rfl rfl rfl ?_
    refine g_acmp X956 hx (hb hby at_351) (q := 354) rfl rfl (same := true) (decide_eq_true rfl) (by decide) (by decide) ?_
    refine iLw X956 hx (hb hby at_354) (q := 356) rfl rfl ?_
    refine ifN X956 hx (hb hby at_356) (q := 359) rfl (by decide) ?_
    refine aLw X956 hx (hb hby at_359) (q := 361) rfl rfl rfl ?_
    refine g_vi X956 hx hZ0 hown0 (wd152 hw) (wd153 hw) (notFace_of_selects (args := #[]) (mvT hZ0 (wd155 hw))) (wd155 hw) (wd154 hw) (by decide) q800_1 e956 (Con.back (W := 0) (rm_get_signedOffBy l Z a0 hw zC SC PC aE SE aD SD aM SM mO MO r_800 T800.heap f946 q800_4) hZ0 (wd156 hw) (wd74 hw) (by decide) (by decide)) (by rw [hml]; rfl) (lenOf pd20 rfl) rfl (Nat.le_of_eq rfl) (hb hby at_361) (q := 364) rfl (by decide) (by decide) ?_
    intro v957 T957 L957 X957 Q957
    obtain ⟨rfl, Nq957, e957⟩ := Q957
    have N957 := Fr.app N956 Nq957
    show Go _ _ _ _ (T957.setTop (mkF m 364 #[.val (.int p0), .val (.int p1), .val (.int p2), .val (.int p3), .val (.int p4), .val (.int p5), .val (.ref b491), .val ov512, .val (.ref b538), .val (.ref b561), .val (.int (0 : Int32)), .val (.ref b581), .val (.ref b588), .val (.ref b595), .val ov602, .val ov615, .val (.ref b630), .val (.ref r_800), .val (.ref aE), .val (.int (1 : Int32))] [.null]))
    refine nnN X957 hx (hb hby at_364) (q := 367) rfl ?_
    refine aLw X957 hx (hb hby at_367) (q := 369) rfl rfl rfl ?_
    refine g_vi X957 hx hZ0 hown0 (wd157 hw) (wd158 hw) (notFace_of_selects (args := #[]) (mvT hZ0 (wd160 hw))) (wd160 hw) (wd159 hw) (by decide) q800_1 e957 (Con.back (W := 0) (rm_get_withdrawn l Z a0 hw zC SC PC aE SE aD SD aM SM mO MO r_800 ov615 T800.heap f946 q800_5 r615) hZ0 (wd161 hw) (wd74 hw) (by decide) (by decide)) (by rw [hml]; rfl) (lenOf pd21 rfl) rfl (Nat.le_of_eq rfl) (hb hby at_369) (q := 372) rfl (by decide) (by decide) ?_
    intro v958 T958 L958 X958 Q958
    obtain ⟨rfl, Nq958, e958⟩ := Q958
    have N958 := Fr.app N957 Nq958
    show Go _ _ _ _ (T958.setTop (mkF m 372 #[.val (.int p0), .val (.int p1), .val (.int p2), .val (.int p3), .val (.int p4), .val (.int p5), .val (.ref b491), .val ov512, .val (.ref b538), .val (.ref b561), .val (.int (0 : Int32)), .val (.ref b581), .val (.ref b588), .val (.ref b595), .val ov602, .val ov615, .val (.ref b630), .val (.ref r_800), .val (.ref aE), .val (.int (1 : Int32))] [ov615]))
    refine aLw X958 hx (hb hby at_372) (q := 374) rfl rfl r615 ?_
    refine g_acmp X958 hx (hb hby at_374) (q := 377) r615 r615 (same := true) (decide_eq_true rfl) (by decide) (by decide) ?_
    refine cI X958 hx (hb hby at_377) (q := 378) rfl (z := (1 : Int32)) rfl ?_
    refine g_goto X958 hx (hb hby at_378) (q := 382) (by decide) (by decide) ?_
    refine endP X958 hlk (fun h => by rw [hret] at h; cases h) (lastN X958 hx (t := .boolean) (z' := (1 : Int32)) hret (by simp) (by decide) (hb hby at_382)) ?_ (by decide) (by decide)
    rw [e958]
    exact ⟨rfl, N958, trivial⟩
  · rw [hk579]
    show Go _ _ _ _ (T567.setTop (mkF m 133 #[.val (.int p0), .val (.int p1), .val (.int p2), .val (.int p3), .val (.int p4), .val (.int p5), .val (.ref b491), .val ov512, .val (.ref b538), .val (.ref b561), .unset, .unset, .unset, .unset, .unset, .unset, .unset, .unset, .unset, .unset] [(.int (1 : Int32))]))
    refine sIw X567 hx (hb hby at_133) (q := 135) rfl (Ls' := #[.val (.int p0), .val (.int p1), .val (.int p2), .val (.int p3), .val (.int p4), .val (.int p5), .val (.ref b491), .val ov512, .val (.ref b538), .val (.ref b561), .val (.int (1 : Int32)), .unset, .unset, .unset, .unset, .unset, .unset, .unset, .unset, .unset]) rfl ?_
    refine g_new X567 hx hZ0 hown0 (wd30 hw) (wd31 hw) (wd32 hw) (by decide) (by decide) rfl (hb hby at_135) (q := 138) rfl ?_
    intro T959 h959 b959 g959 X959 e959 E959 A959 D959
    have F959_43 := D959 (Or.inr (wd43 hw)) (ty := .int) (by decide)
    have F959_45 := D959 (Or.inr (wd45 hw)) (ty := (.object "java/lang/String")) (by decide)
    have F959_47 := D959 (Or.inr (wd47 hw)) (ty := (.object "java/lang/String")) (by decide)
    refine g_dup X959 hx (hb hby at_138) (q := 139) rfl rfl ?_
    refine iL X959 hx (hb hby at_139) (q := 140) rfl rfl ?_
    refine aLw X959 hx (hb hby at_140) (q := 142) rfl rfl rfl ?_
    refine aLw X959 hx (hb hby at_142) (q := 144) rfl rfl rfl ?_
    have f964 : Old Z Z.heap.size T567.heap := f569.keep K567q (allS gz570 all0)
    have gz963 : Z.heap.size ≤ b959 := Nat.le_trans f964.2.1 (Nat.le_of_eq g959.symm)
    have f965 : Old Z Z.heap.size h959 := f964.ext E959
    refine g_sp X959 hx hZ0 hown0 (wd33 hw) (wd34 hw) (wd35 hw) rfl (by decide) e959 (Con.back (W := 1) (rm_loinit l Z a0 hw zC SC PC aE SE aD SD aM SM mO MO b959 p2 b538 b561 h959 f965 A959 F959_43 F959_45 F959_47 gz963) hZ0 (wd35 hw) (wd32 hw) (by decide) (by decide)) (by rw [hml]; rfl) (lenOf pd16 rfl) rfl (Nat.le_of_eq rfl) (hb hby at_144) (q := 147) rfl (by decide) (by decide) ?_
    intro v962 T962 L962 X962 Q962
    obtain ⟨rfl, Nq962, K962q, q962_0⟩ := Q962
    have N962 := Fr.app N567 Nq962
    show Go _ _ _ _ (T962.setTop (mkF m 147 #[.val (.int p0), .val (.int p1), .val (.int p2), .val (.int p3), .val (.int p4), .val (.int p5), .val (.ref b491), .val ov512, .val (.ref b538), .val (.ref b561), .val (.int (1 : Int32)), .unset, .unset, .unset, .unset, .unset, .unset, .unset, .unset, .unset] [(.ref b959)]))
    refine sAw X962 hx (hb hby at_147) (q := 149) rfl rfl (Ls' := #[.val (.int p0), .val (.int p1), .val (.int p2), .val (.int p3), .val (.int p4), .val (.int p5), .val (.ref b491), .val ov512, .val (.ref b538), .val (.ref b561), .val (.int (1 : Int32)), .val (.ref b959), .unset, .unset, .unset, .unset, .unset, .unset, .unset, .unset]) rfl ?_
    refine g_new X962 hx hZ0 hown0 (wd30 hw) (wd31 hw) (wd32 hw) (by decide) (by decide) rfl (hb hby at_149) (q := 152) rfl ?_
    intro T966 h966 b966 g966 X966 e966 E966 A966 D966
    have F966_43 := D966 (Or.inr (wd43 hw)) (ty := .int) (by decide)
    have F966_45 := D966 (Or.inr (wd45 hw)) (ty := (.object "java/lang/String")) (by decide)
    have F966_47 := D966 (Or.inr (wd47 hw)) (ty := (.object "java/lang/String")) (by decide)
    refine g_dup X966 hx (hb hby at_152) (q := 153) rfl rfl ?_
    refine iL X966 hx (hb hby at_153) (q := 154) rfl rfl ?_
    refine aLw X966 hx (hb hby at_154) (q := 156) rfl rfl rfl ?_
    refine aLw X966 hx (hb hby at_156) (q := 158) rfl rfl rfl ?_
    have f971 : Old Z Z.heap.size T962.heap := f965.keep K962q (allS gz963 all0)
    have gz970 : Z.heap.size ≤ b966 := Nat.le_trans f971.2.1 (Nat.le_of_eq g966.symm)
    have f972 : Old Z Z.heap.size h966 := f971.ext E966
    refine g_sp X966 hx hZ0 hown0 (wd33 hw) (wd34 hw) (wd35 hw) rfl (by decide) e966 (Con.back (W := 1) (rm_loinit l Z a0 hw zC SC PC aE SE aD SD aM SM mO MO b966 p3 b561 b538 h966 f972 A966 F966_43 F966_45 F966_47 gz970) hZ0 (wd35 hw) (wd32 hw) (by decide) (by decide)) (by rw [hml]; rfl) (lenOf pd16 rfl) rfl (Nat.le_of_eq rfl) (hb hby at_158) (q := 161) rfl (by decide) (by decide) ?_
    intro v969 T969 L969 X969 Q969
    obtain ⟨rfl, Nq969, K969q, q969_0⟩ := Q969
    have N969 := Fr.app N962 Nq969
    show Go _ _ _ _ (T969.setTop (mkF m 161 #[.val (.int p0), .val (.int p1), .val (.int p2), .val (.int p3), .val (.int p4), .val (.int p5), .val (.ref b491), .val ov512, .val (.ref b538), .val (.ref b561), .val (.int (1 : Int32)), .val (.ref b959), .unset, .unset, .unset, .unset, .unset, .unset, .unset, .unset] [(.ref b966)]))
    refine sAw X969 hx (hb hby at_161) (q := 163) rfl rfl (Ls' := #[.val (.int p0), .val (.int p1), .val (.int p2), .val (.int p3), .val (.int p4), .val (.int p5), .val (.ref b491), .val ov512, .val (.ref b538), .val (.ref b561), .val (.int (1 : Int32)), .val (.ref b959), .val (.ref b966), .unset, .unset, .unset, .unset, .unset, .unset, .unset]) rfl ?_
    refine g_new X969 hx hZ0 hown0 (wd48 hw) (wd49 hw) (wd50 hw) (by decide) (by decide) rfl (hb hby at_163) (q := 166) rfl ?_
    intro T973 h973 b973 g973 X973 e973 E973 A973 D973
    have F973_68 := D973 (Or.inl (wd68 hw)) (ty := .int) (by decide)
    have F973_71 := D973 (Or.inl (wd71 hw)) (ty := (.array (.object "java/lang/Object"))) (by decide)
    have F973_103 := D973 (Or.inl (wd103 hw)) (ty := .int) (by decide)
    refine g_dup X973 hx (hb hby at_166) (q := 167) rfl rfl ?_
    have f978 : Old Z Z.heap.size T969.heap := f972.keep K969q (allS gz970 all0)
    have gz977 : Z.heap.size ≤ b973 := Nat.le_trans f978.2.1 (Nat.le_of_eq g973.symm)
    have f979 : Old Z Z.heap.size h973 := f978.ext E973
    refine g_sp X973 hx hZ0 hown0 (wd51 hw) (wd52 hw) (wd53 hw) rfl (by decide) e973 (Con.back (W := 1) (rm_alinit l Z a0 hw zC SC PC aE SE aD SD aM SM mO MO b973 h973 f979 A973 F973_68 gz977 F973_103 F973_71) hZ0 (wd53 hw) (wd50 hw) (by decide) (by decide)) (by rw [hml]; rfl) (lenOf pd0 rfl) rfl (Nat.le_of_eq rfl) (hb hby at_167) (q := 170) rfl (by decide) (by decide) ?_
    intro v976 T976 L976 X976 Q976
    obtain ⟨rfl, Nq976, K976q, q976_0, q976_1, q976_2, q976_3⟩ := Q976
    have N976 := Fr.app N969 Nq976
    show Go _ _ _ _ (T976.setTop (mkF m 170 #[.val (.int p0), .val (.int p1), .val (.int p2), .val (.int p3), .val (.int p4), .val (.int p5), .val (.ref b491), .val ov512, .val (.ref b538), .val (.ref b561), .val (.int (1 : Int32)), .val (.ref b959), .val (.ref b966), .unset, .unset, .unset, .unset, .unset, .unset, .unset] [(.ref b973)]))
    refine sAw X976 hx (hb hby at_170) (q := 172) rfl rfl (Ls' := #[.val (.int p0), .val (.int p1), .val (.int p2), .val (.int p3), .val (.int p4), .val (.int p5), .val (.ref b491), .val ov512, .val (.ref b538), .val (.ref b561), .val (.int (1 : Int32)), .val (.ref b959), .val (.ref b966), .val (.ref b973), .unset, .unset, .unset, .unset, .unset, .unset]) rfl ?_
    refine iLw X976 hx (hb hby at_172) (q := 174) rfl rfl ?_
    refine cI X976 hx (hb hby at_174) (q := 175) rfl (z := (1 : Int32)) rfl ?_
    refine icN X976 hx (hb hby at_175) (q := 178) rfl (by decide) ?_
    refine aLw X976 hx (hb hby at_178) (q := 180) rfl rfl rfl ?_
    refine aLw X976 hx (hb hby at_180) (q := 182) rfl rfl rfl ?_
    have f1055 : Exa Z h491 aD "[Ljava/lang/Object;" := PD1.ext E491
    have f1056 : Exa Z h492 aD "[Ljava/lang/Object;" := f1055.ext E492
    have f1057 : Exa Z h493 aD "[Ljava/lang/Object;" := f1056.wr W493
    have f1058 : Exa Z h496 aD "[Ljava/lang/Object;" := f1057.wr W496
    have f1059 : Exa Z T497.heap aD "[Ljava/lang/Object;" := f1058.keep K497q
    have f1060 : Exa Z h512 aD "[Ljava/lang/Object;" := f1059.keep K512q
    have f1061 : Exa Z h538 aD "[Ljava/lang/Object;" := f1060.ext E538
    have f1062 : Exa Z h539 aD "[Ljava/lang/Object;" := f1061.ext E539
    have f1063 : Exa Z h540 aD "[Ljava/lang/Object;" := f1062.wr W540
    have f1064 : Exa Z h545 aD "[Ljava/lang/Object;" := f1063.wr W545
    have f1065 : Exa Z T546.heap aD "[Ljava/lang/Object;" := f1064.keep K546q
    have f1066 : Exa Z h561 aD "[Ljava/lang/Object;" := f1065.ext E561
    have f1067 : Exa Z h562 aD "[Ljava/lang/Object;" := f1066.ext E562
    have f1068 : Exa Z h563 aD "[Ljava/lang/Object;" := f1067.wr W563
    have f1069 : Exa Z T567.heap aD "[Ljava/lang/Object;" := f1068.keep K567q
    have f1070 : Exa Z h959 aD "[Ljava/lang/Object;" := f1069.ext E959
    have f1071 : Exa Z T962.heap aD "[Ljava/lang/Object;" := f1070.keep K962q
    have f1072 : Exa Z h966 aD "[Ljava/lang/Object;" := f1071.ext E966
    have f1073 : Exa Z T969.heap aD "[Ljava/lang/Object;" := f1072.keep K969q
    have f1074 : Exa Z h973 aD "[Ljava/lang/Object;" := f1073.ext E973
    have f1075 : Exa Z T976.heap aD "[Ljava/lang/Object;" := f1074.keep K976q
    have f1076 : Arv Z h491 aD dK (.object "java/lang/Object") (0 : Int32) dL .null := PD2.ext E491
    have f1077 : Arv Z h492 aD dK (.object "java/lang/Object") (0 : Int32) dL .null := f1076.ext E492
    have le1078 : (h0).size ≤ (h491).size := E491.1
    have ne1079 : aD ≠ b492 := (Nat.ne_of_lt (Nat.lt_of_lt_of_le (Nat.lt_of_lt_of_le PD1.lt le1078) (Nat.le_of_eq g492.symm)))
    have f1080 : Arv Z h493 aD dK (.object "java/lang/Object") (0 : Int32) dL .null := f1077.other W493 ne1079
    have f1081 : Arv Z h496 aD dK (.object "java/lang/Object") (0 : Int32) dL .null := f1080.other W496 ne1079
    have ne1082 : aD ≠ b491 := (Nat.ne_of_lt (Nat.lt_of_lt_of_le (Nat.lt_of_lt_of_le PD1.lt (Nat.le_refl _)) (Nat.le_of_eq g491.symm)))
    have f1083 : Arv Z T497.heap aD dK (.object "java/lang/Object") (0 : Int32) dL .null := f1081.keep K497q (ninS ne1082 nin0)
    have f1084 : Arv Z h512 aD dK (.object "java/lang/Object") (0 : Int32) dL .null := f1083.keep K512q nin0
    have f1085 : Arv Z h538 aD dK (.object "java/lang/Object") (0 : Int32) dL .null := f1084.ext E538
    have f1086 : Arv Z h539 aD dK (.object "java/lang/Object") (0 : Int32) dL .null := f1085.ext E539
    have le1087 : (h0).size ≤ (h492).size := (Nat.le_trans le1078 E492.1)
    have le1088 : (h0).size ≤ (h493).size := (Nat.le_trans le1087 (Nat.le_of_eq (Wr.size W493).symm))
    have le1089 : (h0).size ≤ (h496).size := (Nat.le_trans le1088 (Nat.le_of_eq (Wr.size W496).symm))
    have le1090 : (h0).size ≤ (T497.heap).size := (Nat.le_trans le1089 K497q.1)
    have le1091 : (h0).size ≤ (h512).size := (Nat.le_trans le1090 K512q.1)
    have le1092 : (h0).size ≤ (h538).size := (Nat.le_trans le1091 E538.1)
    have ne1093 : aD ≠ b539 := (Nat.ne_of_lt (Nat.lt_of_lt_of_le (Nat.lt_of_lt_of_le PD1.lt le1092) (Nat.le_of_eq g539.symm)))
    have f1094 : Arv Z h540 aD dK (.object "java/lang/Object") (0 : Int32) dL .null := f1086.other W540 ne1093
    have f1095 : Arv Z h545 aD dK (.object "java/lang/Object") (0 : Int32) dL .null := f1094.other W545 ne1093
    have ne1096 : aD ≠ b538 := (Nat.ne_of_lt (Nat.lt_of_lt_of_le (Nat.lt_of_lt_of_le PD1.lt le1091) (Nat.le_of_eq g538.symm)))
    have f1097 : Arv Z T546.heap aD dK (.object "java/lang/Object") (0 : Int32) dL .null := f1095.keep K546q (ninS ne1096 nin0)
    have f1098 : Arv Z h561 aD dK (.object "java/lang/Object") (0 : Int32) dL .null := f1097.ext E561
    have f1099 : Arv Z h562 aD dK (.object "java/lang/Object") (0 : Int32) dL .null := f1098.ext E562
    have le1100 : (h0).size ≤ (h539).size := (Nat.le_trans le1092 E539.1)
    have le1101 : (h0).size ≤ (h540).size := (Nat.le_trans le1100 (Nat.le_of_eq (Wr.size W540).symm))
    have le1102 : (h0).size ≤ (h545).size := (Nat.le_trans le1101 (Nat.le_of_eq (Wr.size W545).symm))
    have le1103 : (h0).size ≤ (T546.heap).size := (Nat.le_trans le1102 K546q.1)
    have le1104 : (h0).size ≤ (h561).size := (Nat.le_trans le1103 E561.1)
    have ne1105 : aD ≠ b562 := (Nat.ne_of_lt (Nat.lt_of_lt_of_le (Nat.lt_of_lt_of_le PD1.lt le1104) (Nat.le_of_eq g562.symm)))
    have f1106 : Arv Z h563 aD dK (.object "java/lang/Object") (0 : Int32) dL .null := f1099.other W563 ne1105
    have ne1107 : aD ≠ b561 := (Nat.ne_of_lt (Nat.lt_of_lt_of_le (Nat.lt_of_lt_of_le PD1.lt le1103) (Nat.le_of_eq g561.symm)))
    have f1108 : Arv Z T567.heap aD dK (.object "java/lang/Object") (0 : Int32) dL .null := f1106.keep K567q (ninS ne1107 nin0)
    have f1109 : Arv Z h959 aD dK (.object "java/lang/Object") (0 : Int32) dL .null := f1108.ext E959
    have le1110 : (h0).size ≤ (h562).size := (Nat.le_trans le1104 E562.1)
    have le1111 : (h0).size ≤ (h563).size := (Nat.le_trans le1110 (Nat.le_of_eq (Wr.size W563).symm))
    have le1112 : (h0).size ≤ (T567.heap).size := (Nat.le_trans le1111 K567q.1)
    have ne1113 : aD ≠ b959 := (Nat.ne_of_lt (Nat.lt_of_lt_of_le (Nat.lt_of_lt_of_le PD1.lt le1112) (Nat.le_of_eq g959.symm)))
    have f1114 : Arv Z T962.heap aD dK (.object "java/lang/Object") (0 : Int32) dL .null := f1109.keep K962q (ninS ne1113 nin0)
    have f1115 : Arv Z h966 aD dK (.object "java/lang/Object") (0 : Int32) dL .null := f1114.ext E966
    have le1116 : (h0).size ≤ (h959).size := (Nat.le_trans le1112 E959.1)
    have le1117 : (h0).size ≤ (T962.heap).size := (Nat.le_trans le1116 K962q.1)
    have ne1118 : aD ≠ b966 := (Nat.ne_of_lt (Nat.lt_of_lt_of_le (Nat.lt_of_lt_of_le PD1.lt le1117) (Nat.le_of_eq g966.symm)))
    have f1119 : Arv Z T969.heap aD dK (.object "java/lang/Object") (0 : Int32) dL .null := f1115.keep K969q (ninS ne1118 nin0)
    have f1120 : Arv Z h973 aD dK (.object "java/lang/Object") (0 : Int32) dL .null := f1119.ext E973
    have le1121 : (h0).size ≤ (h966).size := (Nat.le_trans le1117 E966.1)
    have le1122 : (h0).size ≤ (T969.heap).size := (Nat.le_trans le1121 K969q.1)
    have ne1123 : aD ≠ b973 := (Nat.ne_of_lt (Nat.lt_of_lt_of_le (Nat.lt_of_lt_of_le PD1.lt le1122) (Nat.le_of_eq g973.symm)))
    have f1124 : Arv Z T976.heap aD dK (.object "java/lang/Object") (0 : Int32) dL .null := f1120.keep K976q (ninS ne1123 nin0)
    have f1125 : Exa Z h966 b959 "com/example/quaymark/quaymark/Review$LeftOut" := q962_0.ext E966
    have f1126 : Exa Z T969.heap b959 "com/example/quaymark/quaymark/Review$LeftOut" := f1125.keep K969q
    have f1127 : Exa Z h973 b959 "com/example/quaymark/quaymark/Review$LeftOut" := f1126.ext E973
    have f1128 : Exa Z T976.heap b959 "com/example/quaymark/quaymark/Review$LeftOut" := f1127.keep K976q
    have f1129 : Old Z Z.heap.size T976.heap := f979.keep K976q (allS gz977 all0)
    refine g_if X976 hx hZ0 hown0 (wd173 hw) (wd174 hw) (wd175 hw) rfl (wd176 hw) (wd177 hw) (wd178 hw) (wd179 hw) (wd180 hw) (by decide) q976_0 rfl (Con.back (W := 0) (rm_add1a l Z a0 hw zC SC PC aE SE aD SD aM SM mO MO b973 b959 dK dL T976.heap f1129 q976_0 q976_2 q976_3 gz977 f1075 f1124 f1128 q976_1) hZ0 (wd181 hw) (wd50 hw) (by decide) (by decide)) (by rw [hml]; rfl) (lenOf pd22 rfl) rfl (Nat.le_of_eq rfl) (hb hby at_182) (q := 187) rfl (by decide) (by decide) ?_
    intro v1054 T1054 L1054 X1054 Q1054
    obtain ⟨r_1054, kr_1054, rfl, Nq1054, K1054q, q1054_0, q1054_1, q1054_2, q1054_3, q1054_4, q1054_5, q1054_6, q1054_7⟩ := Q1054
    have N1054 := Fr.app N976 Nq1054
    show Go _ _ _ _ (T1054.setTop (mkF m 187 #[.val (.int p0), .val (.int p1), .val (.int p2), .val (.int p3), .val (.int p4), .val (.int p5), .val (.ref b491), .val ov512, .val (.ref b538), .val (.ref b561), .val (.int (1 : Int32)), .val (.ref b959), .val (.ref b966), .val (.ref b973), .unset, .unset, .unset, .unset, .unset, .unset] [(.int (1 : Int32))]))
    refine g_pop X1054 hx (hb hby at_187) (q := 188) rfl rfl ?_
    refine iLw X1054 hx (hb hby at_188) (q := 190) rfl rfl ?_
    refine cI X1054 hx (hb hby at_190) (q := 191) rfl (z := (2 : Int32)) rfl ?_
    refine icY X1054 hx (hb hby at_191) (q := 204) (by decide) (by decide) (by decide) ?_
    refine iLw X1054 hx (hb hby at_204) (q := 206) rfl rfl ?_
    refine bI X1054 hx (hb hby at_206) (q := 208) rfl (z := (8 : Int32)) rfl ?_
    refine g_iand X1054 hx (hb hby at_208) (q := 209) rfl rfl ?_
    suffices kk1130 : ∀ (T1130 : State) (h1130 : Heap) (L1130 : List Loc) (ov1130 : Value) , ov1130.isRef = true → Stand p l e room_1 s m #[.int p0, .int p1, .int p2, .int p3, .int p4, .int p5] below meth c T1130 L1130 17 49 → T1130.heap = h1130 → Keep T1054.heap h1130 [] → Fr Z.heap.size L1130 → Go p.tables e below (PEnd s (Q_law Z zC aE aD aM mO p0 p1 p2 p3 p4 p5 eA eK eL dK dL h0) room_1.cells room_1.slots) (T1130.setTop (mkF m 227 #[.val (.int p0), .val (.int p1), .val (.int p2), .val (.int p3), .val (.int p4), .val (.int p5), .val (.ref b491), .val ov512, .val (.ref b538), .val (.ref b561), .val (.int (1 : Int32)), .val (.ref b959), .val (.ref b966), .val (.ref b973), .unset, .unset, .unset, .unset, .unset, .unset] [ov1130])) by
      by_cases hc1131 : (p4 &&& (8 : Int32)) = (0 : Int32)
      · refine ifY X1054 hx (hb hby at_209) (q := 226) (by decide) (by decide) ((if0 _ _).trans (teq hc1131).1) ?_
        refine cN X1054 hx (hb hby at_226) (q := 227) rfl ?_
        exact kk1130 _ _ _ .null rfl (X1054.more (by decide) (by decide)) rfl (Keep.refl T1054.heap []) N1054
      · refine ifN X1054 hx (hb hby at_209) (q := 212) rfl ((if0 _ _).trans (feq hc1131).1) ?_
        refine g_new X1054 hx hZ0 hown0 (wd162 hw) (wd163 hw) (wd164 hw) (by decide) (by decide) rfl (hb hby at_212) (q := 215) rfl ?_
        intro T1133 h1133 b1133 g1133 X1133 e1133 E1133 A1133 D1133
        have F1133_170 := D1133 (Or.inr (wd170 hw)) (ty := (.object "java/lang/String")) (by decide)
        have F1133_172 := D1133 (Or.inr (wd172 hw)) (ty := (.object "java/lang/String")) (by decide)
        refine g_dup X1133 hx (hb hby at_215) (q := 216) rfl rfl ?_
        refine aLw X1133 hx (hb hby at_216) (q := 218) rfl rfl rfl ?_
        refine aLw X1133 hx (hb hby at_218) (q := 220) rfl rfl rfl ?_
        have f1138 : Old Z Z.heap.size T1054.heap := f1129.keep K1054q (allS gz977 all0)
        have gz1137 : Z.heap.size ≤ b1133 := Nat.le_trans f1138.2.1 (Nat.le_of_eq g1133.symm)
        have f1139 : Old Z Z.heap.size h1133 := f1138.ext E1133
        refine g_sp X1133 hx hZ0 hown0 (wd165 hw) (wd166 hw) (wd167 hw) rfl (by decide) e1133 (Con.back (W := 1) (rm_wdinit l Z a0 hw zC SC PC aE SE aD SD aM SM mO MO b1133 b538 b561 h1133 f1139 A1133 F1133_170 F1133_172 gz1137) hZ0 (wd167 hw) (wd164 hw) (by decide) (by decide)) (by rw [hml]; rfl) (lenOf pd17 rfl) rfl (Nat.le_of_eq rfl) (hb hby at_220) (q := 223) rfl (by decide) (by decide) ?_
        intro v1136 T1136 L1136 X1136 Q1136
        obtain ⟨rfl, Nq1136, K1136q, q1136_0⟩ := Q1136
        have N1136 := Fr.app N1054 Nq1136
        show Go _ _ _ _ (T1136.setTop (mkF m 223 #[.val (.int p0), .val (.int p1), .val (.int p2), .val (.int p3), .val (.int p4), .val (.int p5), .val (.ref b491), .val ov512, .val (.ref b538), .val (.ref b561), .val (.int (1 : Int32)), .val (.ref b959), .val (.ref b966), .val (.ref b973), .unset, .unset, .unset, .unset, .unset, .unset] [(.ref b1133)]))
        refine g_goto X1136 hx (hb hby at_223) (q := 227) (by decide) (by decide) ?_
        have K1141 : Keep T1054.heap h1133 [] := (Keep.refl T1054.heap []).ext E1133
        have K1142 : Keep T1054.heap T1136.heap [] := K1141.trans K1136q (allS (Or.inr (Nat.le_trans (Nat.le_refl _) (Nat.le_of_eq g1133.symm))) all0)
        exact kk1130 _ _ _ (.ref b1133) rfl (X1136.more (by decide) (by decide)) rfl K1142 N1136
    intro T1130 h1130 L1130 ov1130 r1130 X1130 e1130 K1130q N1130
    show Go _ _ _ _ (T1130.setTop (mkF m 227 #[.val (.int p0), .val (.int p1), .val (.int p2), .val (.int p3), .val (.int p4), .val (.int p5), .val (.ref b491), .val ov512, .val (.ref b538), .val (.ref b561), .val (.int (1 : Int32)), .val (.ref b959), .val (.ref b966), .val (.ref b973), .unset, .unset, .unset, .unset, .unset, .unset] [ov1130]))
    refine sAw X1130 hx (hb hby at_227) (q := 229) rfl r1130 (Ls' := #[.val (.int p0), .val (.int p1), .val (.int p2), .val (.int p3), .val (.int p4), .val (.int p5), .val (.ref b491), .val ov512, .val (.ref b538), .val (.ref b561), .val (.int (1 : Int32)), .val (.ref b959), .val (.ref b966), .val (.ref b973), .val ov1130, .unset, .unset, .unset, .unset, .unset]) (by rcases ref_cases r1130 with q | ⟨_, q⟩ <;> (rw [q]; rfl)) ?_
    refine iLw X1130 hx (hb hby at_229) (q := 231) rfl rfl ?_
    refine bI X1130 hx (hb hby at_231) (q := 233) rfl (z := (16 : Int32)) rfl ?_
    refine g_iand X1130 hx (hb hby at_233) (q := 234) rfl rfl ?_
    suffices kk1143 : ∀ (T1143 : State) (h1143 : Heap) (L1143 : List Loc) (ov1143 : Value) , ov1143.isRef = true → Stand p l e room_1 s m #[.int p0, .int p1, .int p2, .int p3, .int p4, .int p5] below meth c T1143 L1143 18 51 → T1143.heap = h1143 → Keep h1130 h1143 [] → Fr Z.heap.size L1143 → Go p.tables e below (PEnd s (Q_law Z zC aE aD aM mO p0 p1 p2 p3 p4 p5 eA eK eL dK dL h0) room_1.cells room_1.slots) (T1143.setTop (mkF m 252 #[.val (.int p0), .val (.int p1), .val (.int p2), .val (.int p3), .val (.int p4), .val (.int p5), .val (.ref b491), .val ov512, .val (.ref b538), .val (.ref b561), .val (.int (1 : Int32)), .val (.ref b959), .val (.ref b966), .val (.ref b973), .val ov1130, .unset, .unset, .unset, .unset, .unset] [ov1143])) by
      by_cases hc1144 : (p4 &&& (16 : Int32)) = (0 : Int32)
      · refine ifY X1130 hx (hb hby at_234) (q := 251) (by decide) (by decide) ((if0 _ _).trans (teq hc1144).1) ?_
        refine cN X1130 hx (hb hby at_251) (q := 252) rfl ?_
        exact kk1143 _ _ _ .null rfl (X1130.more (by decide) (by decide)) e1130 (Keep.refl h1130 []) N1130
      · refine ifN X1130 hx (hb hby at_234) (q := 237) rfl ((if0 _ _).trans (feq hc1144).1) ?_
        refine g_new X1130 hx hZ0 hown0 (wd162 hw) (wd163 hw) (wd164 hw) (by decide) (by decide) e1130 (hb hby at_237) (q := 240) rfl ?_
        intro T1146 h1146 b1146 g1146 X1146 e1146 E1146 A1146 D1146
        have F1146_170 := D1146 (Or.inr (wd170 hw)) (ty := (.object "java/lang/String")) (by decide)
        have F1146_172 := D1146 (Or.inr (wd172 hw)) (ty := (.object "java/lang/String")) (by decide)
        refine g_dup X1146 hx (hb hby at_240) (q := 241) rfl rfl ?_
        refine aLw X1146 hx (hb hby at_241) (q := 243) rfl rfl rfl ?_
        refine aLw X1146 hx (hb hby at_243) (q := 245) rfl rfl rfl ?_
        have f1152 : Old Z Z.heap.size T1054.heap := f1129.keep K1054q (allS gz977 all0)
        have f1153 : Old Z Z.heap.size h1130 := f1152.keep K1130q all0
        have gz1151 : Z.heap.size ≤ b1146 := Nat.le_trans f1153.2.1 (Nat.le_of_eq g1146.symm)
        have f1154 : Old Z Z.heap.size h1146 := f1153.ext E1146
        refine g_sp X1146 hx hZ0 hown0 (wd165 hw) (wd166 hw) (wd167 hw) rfl (by decide) e1146 (Con.back (W := 1) (rm_wdinit l Z a0 hw zC SC PC aE SE aD SD aM SM mO MO b1146 b561 b538 h1146 f1154 A1146 F1146_170 F1146_172 gz1151) hZ0 (wd167 hw) (wd164 hw) (by decide) (by decide)) (by rw [hml]; rfl) (lenOf pd17 rfl) rfl (Nat.le_of_eq rfl) (hb hby at_245) (q := 248) rfl (by decide) (by decide) ?_
        intro v1150 T1150 L1150 X1150 Q1150
        obtain ⟨rfl, Nq1150, K1150q, q1150_0⟩ := Q1150
        have N1150 := Fr.app N1130 Nq1150
        show Go _ _ _ _ (T1150.setTop (mkF m 248 #[.val (.int p0), .val (.int p1), .val (.int p2), .val (.int p3), .val (.int p4), .val (.int p5), .val (.ref b491), .val ov512, .val (.ref b538), .val (.ref b561), .val (.int (1 : Int32)), .val (.ref b959), .val (.ref b966), .val (.ref b973), .val ov1130, .unset, .unset, .unset, .unset, .unset] [(.ref b1146)]))
        refine g_goto X1150 hx (hb hby at_248) (q := 252) (by decide) (by decide) ?_
        have K1156 : Keep h1130 h1146 [] := (Keep.refl h1130 []).ext E1146
        have K1157 : Keep h1130 T1150.heap [] := K1156.trans K1150q (allS (Or.inr (Nat.le_trans (Nat.le_refl _) (Nat.le_of_eq g1146.symm))) all0)
        exact kk1143 _ _ _ (.ref b1146) rfl (X1150.more (by decide) (by decide)) rfl K1157 N1150
    intro T1143 h1143 L1143 ov1143 r1143 X1143 e1143 K1143q N1143
    show Go _ _ _ _ (T1143.setTop (mkF m 252 #[.val (.int p0), .val (.int p1), .val (.int p2), .val (.int p3), .val (.int p4), .val (.int p5), .val (.ref b491), .val ov512, .val (.ref b538), .val (.ref b561), .val (.int (1 : Int32)), .val (.ref b959), .val (.ref b966), .val (.ref b973), .val ov1130, .unset, .unset, .unset, .unset, .unset] [ov1143]))
    refine sAw X1143 hx (hb hby at_252) (q := 254) rfl r1143 (Ls' := #[.val (.int p0), .val (.int p1), .val (.int p2), .val (.int p3), .val (.int p4), .val (.int p5), .val (.ref b491), .val ov512, .val (.ref b538), .val (.ref b561), .val (.int (1 : Int32)), .val (.ref b959), .val (.ref b966), .val (.ref b973), .val ov1130, .val ov1143, .unset, .unset, .unset, .unset]) (by rcases ref_cases r1143 with q | ⟨_, q⟩ <;> (rw [q]; rfl)) ?_
    refine g_new X1143 hx hZ0 hown0 (wd72 hw) (wd73 hw) (wd74 hw) (by decide) (by decide) e1143 (hb hby at_254) (q := 257) rfl ?_
    intro T1158 h1158 b1158 g1158 X1158 e1158 E1158 A1158 D1158
    have F1158_109 := D1158 (Or.inr (wd109 hw)) (ty := (.object "java/lang/String")) (by decide)
    have F1158_111 := D1158 (Or.inr (wd111 hw)) (ty := (.object "java/util/List")) (by decide)
    have F1158_113 := D1158 (Or.inr (wd113 hw)) (ty := (.object "java/lang/String")) (by decide)
    have F1158_115 := D1158 (Or.inr (wd115 hw)) (ty := (.object "com/example/quaymark/quaymark/Review$Withdrawal")) (by decide)
    refine g_dup X1158 hx (hb hby at_257) (q := 258) rfl rfl ?_
    refine aLw X1158 hx (hb hby at_258) (q := 260) rfl rfl rfl ?_
    refine aLw X1158 hx (hb hby at_260) (q := 262) rfl rfl rfl ?_
    refine aLw X1158 hx (hb hby at_262) (q := 264) rfl rfl r512 ?_
    refine aLw X1158 hx (hb hby at_264) (q := 266) rfl rfl r1130 ?_
    have f1195 : Old Z Z.heap.size T1054.heap := f1129.keep K1054q (allS gz977 all0)
    have f1196 : Old Z Z.heap.size h1130 := f1195.keep K1130q all0
    have f1197 : Old Z Z.heap.size h1143 := f1196.keep K1143q all0
    have gz1194 : Z.heap.size ≤ b1158 := Nat.le_trans f1197.2.1 (Nat.le_of_eq g1158.symm)
    have f1198 : Exa Z h1130 b973 "java/util/ArrayList" := q1054_0.keep K1130q
    have f1199 : Exa Z h1143 b973 "java/util/ArrayList" := f1198.keep K1143q
    have f1200 : Exa Z h1158 b973 "java/util/ArrayList" := f1199.ext E1158
    have f1201 : Fld Z h1130 b973 "java/util/ArrayList" "size" "I" (.int (1 : Int32)) := q1054_1.keep K1130q nin0
    have f1202 : Fld Z h1143 b973 "java/util/ArrayList" "size" "I" (.int (1 : Int32)) := f1201.keep K1143q nin0
    have f1203 : Fld Z h1158 b973 "java/util/ArrayList" "size" "I" (.int (1 : Int32)) := f1202.ext E1158
    have f1204 : Fld Z h1130 b973 "java/util/ArrayList" "elementData" "[Ljava/lang/Object;" (.ref r_1054) := q1054_2.keep K1130q nin0
    have f1205 : Fld Z h1143 b973 "java/util/ArrayList" "elementData" "[Ljava/lang/Object;" (.ref r_1054) := f1204.keep K1143q nin0
    have f1206 : Fld Z h1158 b973 "java/util/ArrayList" "elementData" "[Ljava/lang/Object;" (.ref r_1054) := f1205.ext E1158
    have f1207 : Arv Z h1130 r_1054 kr_1054 (.object "java/lang/Object") (10 : Int32) [(.ref b959), .null, .null, .null, .null, .null, .null, .null, .null, .null] .null := q1054_4.keep K1130q nin0
    have f1208 : Arv Z h1143 r_1054 kr_1054 (.object "java/lang/Object") (10 : Int32) [(.ref b959), .null, .null, .null, .null, .null, .null, .null, .null, .null] .null := f1207.keep K1143q nin0
    have f1209 : Arv Z h1158 r_1054 kr_1054 (.object "java/lang/Object") (10 : Int32) [(.ref b959), .null, .null, .null, .null, .null, .null, .null, .null, .null] .null := f1208.ext E1158
    have f1210 : Exa Z h1130 r_1054 "[Ljava/lang/Object;" := q1054_5.keep K1130q
    have f1211 : Exa Z h1143 r_1054 "[Ljava/lang/Object;" := f1210.keep K1143q
    have f1212 : Exa Z h1158 r_1054 "[Ljava/lang/Object;" := f1211.ext E1158
    have f1213 : Exa Z T1054.heap b959 "com/example/quaymark/quaymark/Review$LeftOut" := f1128.keep K1054q
    have f1214 : Exa Z h1130 b959 "com/example/quaymark/quaymark/Review$LeftOut" := f1213.keep K1130q
    have f1215 : Exa Z h1143 b959 "com/example/quaymark/quaymark/Review$LeftOut" := f1214.keep K1143q
    have f1216 : Exa Z h1158 b959 "com/example/quaymark/quaymark/Review$LeftOut" := f1215.ext E1158
    have f1217 : Old Z Z.heap.size h1158 := f1197.ext E1158
    refine g_sp X1158 hx hZ0 hown0 (wd75 hw) (wd76 hw) (wd77 hw) rfl (by decide) e1158 (Con.back (W := 1) (rm_rv1 l Z a0 hw zC SC PC aE SE aD SD aM SM mO MO b1158 b491 ov512 ov1130 b973 r_1054 kr_1054 b959 h1158 f1217 A1158 F1158_109 F1158_111 F1158_113 F1158_115 gz1194 r512 r1130 f1200 f1203 f1206 f1209 f1212 f1216) hZ0 (wd77 hw) (wd74 hw) (by decide) (by decide)) (by rw [hml]; rfl) (lenOf pd14 rfl) rfl (Nat.le_of_eq rfl) (hb hby at_266) (q := 269) rfl (by decide) (by decide) ?_
    intro v1193 T1193 L1193 X1193 Q1193
    obtain ⟨q_1193, rfl, Nq1193, K1193q, q1193_0, q1193_1, q1193_2, q1193_3, q1193_4, q1193_5, q1193_6, q1193_7, q1193_8⟩ := Q1193
    have N1193 := Fr.app N1143 Nq1193
    show Go _ _ _ _ (T1193.setTop (mkF m 269 #[.val (.int p0), .val (.int p1), .val (.int p2), .val (.int p3), .val (.int p4), .val (.int p5), .val (.ref b491), .val ov512, .val (.ref b538), .val (.ref b561), .val (.int (1 : Int32)), .val (.ref b959), .val (.ref b966), .val (.ref b973), .val ov1130, .val ov1143, .unset, .unset, .unset, .unset] [(.ref b1158)]))
    refine sAw X1193 hx (hb hby at_269) (q := 271) rfl rfl (Ls' := #[.val (.int p0), .val (.int p1), .val (.int p2), .val (.int p3), .val (.int p4), .val (.int p5), .val (.ref b491), .val ov512, .val (.ref b538), .val (.ref b561), .val (.int (1 : Int32)), .val (.ref b959), .val (.ref b966), .val (.ref b973), .val ov1130, .val ov1143, .val (.ref b1158), .unset, .unset, .unset]) rfl ?_
    refine aLw X1193 hx (hb hby at_271) (q := 273) rfl rfl rfl ?_
    refine aLw X1193 hx (hb hby at_273) (q := 275) rfl rfl r1143 ?_
    have f1219 : Old Z Z.heap.size T1193.heap := f1217.keep K1193q (allS gz1194 all0)
    refine g_vi X1193 hx hZ0 hown0 (wd116 hw) (wd117 hw) (notFace_of_selects (args := #[]) (mvT hZ0 (wd119 hw))) (wd119 hw) (wd118 hw) (by decide) q1193_0 rfl (Con.back (W := 0) (rm_withdrawing12 l Z a0 hw zC SC PC aE SE aD SD aM SM mO MO b1158 b491 q_1193 ov1143 T1193.heap f1219 q1193_1 q1193_2 q1193_6 r1143) hZ0 (wd120 hw) (wd74 hw) (by decide) (by decide)) (by rw [hml]; rfl) (lenOf pd18 rfl) rfl (Nat.le_of_eq rfl) (hb hby at_275) (q := 278) rfl (by decide) (by decide) ?_
    intro v1218 T1218 L1218 X1218 Q1218
    obtain ⟨r_1218, rfl, Nq1218, K1218q, q1218_0, q1218_1, q1218_2, q1218_3, q1218_4, q1218_5⟩ := Q1218
    have N1218 := Fr.app N1193 Nq1218
    show Go _ _ _ _ (T1218.setTop (mkF m 278 #[.val (.int p0), .val (.int p1), .val (.int p2), .val (.int p3), .val (.int p4), .val (.int p5), .val (.ref b491), .val ov512, .val (.ref b538), .val (.ref b561), .val (.int (1 : Int32)), .val (.ref b959), .val (.ref b966), .val (.ref b973), .val ov1130, .val ov1143, .val (.ref b1158), .unset, .unset, .unset] [(.ref r_1218)]))
    refine sAw X1218 hx (hb hby at_278) (q := 280) rfl rfl (Ls' := #[.val (.int p0), .val (.int p1), .val (.int p2), .val (.int p3), .val (.int p4), .val (.int p5), .val (.ref b491), .val ov512, .val (.ref b538), .val (.ref b561), .val (.int (1 : Int32)), .val (.ref b959), .val (.ref b966), .val (.ref b973), .val ov1130, .val ov1143, .val (.ref b1158), .val (.ref r_1218), .unset, .unset]) rfl ?_
    refine aLw X1218 hx (hb hby at_280) (q := 282) rfl rfl rfl ?_
    have f1221 : Old Z Z.heap.size T1218.heap := f1219.keep K1218q all0
    refine g_vi X1218 hx hZ0 hown0 (wd131 hw) (wd132 hw) (notFace_of_selects (args := #[]) (mvT hZ0 (wd134 hw))) (wd134 hw) (wd133 hw) (by decide) q1218_1 rfl (Con.back (W := 0) (rm_get_leftOut l Z a0 hw zC SC PC aE SE aD SD aM SM mO MO r_1218 q_1193 T1218.heap f1221 q1218_3) hZ0 (wd135 hw) (wd74 hw) (by decide) (by decide)) (by rw [hml]; rfl) (lenOf pd13 rfl) rfl (Nat.le_of_eq rfl) (hb hby at_282) (q := 285) rfl (by decide) (by decide) ?_
    intro v1220 T1220 L1220 X1220 Q1220
    obtain ⟨rfl, Nq1220, e1220⟩ := Q1220
    have N1220 := Fr.app N1218 Nq1220
    show Go _ _ _ _ (T1220.setTop (mkF m 285 #[.val (.int p0), .val (.int p1), .val (.int p2), .val (.int p3), .val (.int p4), .val (.int p5), .val (.ref b491), .val ov512, .val (.ref b538), .val (.ref b561), .val (.int (1 : Int32)), .val (.ref b959), .val (.ref b966), .val (.ref b973), .val ov1130, .val ov1143, .val (.ref b1158), .val (.ref r_1218), .unset, .unset] [(.ref q_1193)]))
    refine sAw X1220 hx (hb hby at_285) (q := 287) rfl rfl (Ls' := #[.val (.int p0), .val (.int p1), .val (.int p2), .val (.int p3), .val (.int p4), .val (.int p5), .val (.ref b491), .val ov512, .val (.ref b538), .val (.ref b561), .val (.int (1 : Int32)), .val (.ref b959), .val (.ref b966), .val (.ref b973), .val ov1130, .val ov1143, .val (.ref b1158), .val (.ref r_1218), .val (.ref q_1193), .unset]) rfl ?_
    refine aLw X1220 hx (hb hby at_287) (q := 289) rfl rfl rfl ?_
    have f1224 : Fld Z T1218.heap q_1193 "java/util/ImmutableCollections$List12" "e1" "Ljava/lang/Object;" (.ref aM) := q1193_8.keep K1218q nin0
    have f1225 : Exa Z T1218.heap q_1193 "java/util/ImmutableCollections$List12" := q1193_6.keep K1218q
    refine g_if X1220 hx hZ0 hown0 (wd136 hw) (wd137 hw) (wd138 hw) rfl (wd269 hw) (wd270 hw) (wd271 hw) (wd272 hw) (wd268 hw) (by decide) f1225 e1220 (Con.back (W := 0) (rm_size1 l Z a0 hw zC SC PC aE SE aD SD aM SM mO MO q_1193 T1218.heap f1221 f1224) hZ0 (wd273 hw) (wd241 hw) (by decide) (by decide)) (by rw [hml]; rfl) (lenOf pd19 rfl) rfl (Nat.le_of_eq rfl) (hb hby at_289) (q := 294) rfl (by decide) (by decide) ?_
    intro v1223 T1223 L1223 X1223 Q1223
    obtain ⟨rfl, Nq1223, e1223⟩ := Q1223
    have N1223 := Fr.app N1220 Nq1223
    show Go _ _ _ _ (T1223.setTop (mkF m 294 #[.val (.int p0), .val (.int p1), .val (.int p2), .val (.int p3), .val (.int p4), .val (.int p5), .val (.ref b491), .val ov512, .val (.ref b538), .val (.ref b561), .val (.int (1 : Int32)), .val (.ref b959), .val (.ref b966), .val (.ref b973), .val ov1130, .val ov1143, .val (.ref b1158), .val (.ref r_1218), .val (.ref q_1193), .unset] [(.int (1 : Int32))]))
    refine iLw X1223 hx (hb hby at_294) (q := 296) rfl rfl ?_
    refine icN X1223 hx (hb hby at_296) (q := 299) rfl (by decide) ?_
    refine iLw X1223 hx (hb hby at_299) (q := 301) rfl rfl ?_
    refine cI X1223 hx (hb hby at_301) (q := 302) rfl (z := (1 : Int32)) rfl ?_
    refine icN X1223 hx (hb hby at_302) (q := 305) rfl (by decide) ?_
    refine aLw X1223 hx (hb hby at_305) (q := 307) rfl rfl rfl ?_
    refine cI X1223 hx (hb hby at_307) (q := 308) rfl (z := (0 : Int32)) rfl ?_
    have f1228 : Fld Z T1218.heap q_1193 "java/util/ImmutableCollections$List12" "e0" "Ljava/lang/Object;" (.ref b959) := q1193_7.keep K1218q nin0
    refine g_if X1223 hx hZ0 hown0 (wd275 hw) (wd276 hw) (wd277 hw) rfl (wd278 hw) (wd279 hw) (wd280 hw) (wd281 hw) (wd268 hw) (by decide) f1225 e1223 (Con.back (W := 0) (rm_get0 l Z a0 hw zC SC PC aE SE aD SD aM SM mO MO q_1193 b959 T1218.heap f1221 f1228) hZ0 (wd282 hw) (wd241 hw) (by decide) (by decide)) (by rw [hml]; rfl) (lenOf pd23 rfl) rfl (Nat.le_of_eq rfl) (hb hby at_308) (q := 313) rfl (by decide) (by decide) ?_
    intro v1227 T1227 L1227 X1227 Q1227
    obtain ⟨rfl, Nq1227, e1227⟩ := Q1227
    have N1227 := Fr.app N1223 Nq1227
    show Go _ _ _ _ (T1227.setTop (mkF m 313 #[.val (.int p0), .val (.int p1), .val (.int p2), .val (.int p3), .val (.int p4), .val (.int p5), .val (.ref b491), .val ov512, .val (.ref b538), .val (.ref b561), .val (.int (1 : Int32)), .val (.ref b959), .val (.ref b966), .val (.ref b973), .val ov1130, .val ov1143, .val (.ref b1158), .val (.ref r_1218), .val (.ref q_1193), .unset] [(.ref b959)]))
    refine aLw X1227 hx (hb hby at_313) (q := 315) rfl rfl rfl ?_
    refine g_acmp X1227 hx (hb hby at_315) (q := 318) rfl rfl (same := true) (decide_eq_true rfl) (by decide) (by decide) ?_
    refine iLw X1227 hx (hb hby at_318) (q := 320) rfl rfl ?_
    refine cI X1227 hx (hb hby at_320) (q := 321) rfl (z := (2 : Int32)) rfl ?_
    refine icY X1227 hx (hb hby at_321) (q := 337) (by decide) (by decide) (by decide) ?_
    refine cI X1227 hx (hb hby at_337) (q := 338) rfl (z := (1 : Int32)) rfl ?_
    refine g_goto X1227 hx (hb hby at_338) (q := 342) (by decide) (by decide) ?_
    refine sIw X1227 hx (hb hby at_342) (q := 344) rfl (Ls' := #[.val (.int p0), .val (.int p1), .val (.int p2), .val (.int p3), .val (.int p4), .val (.int p5), .val (.ref b491), .val ov512, .val (.ref b538), .val (.ref b561), .val (.int (1 : Int32)), .val (.ref b959), .val (.ref b966), .val (.ref b973), .val ov1130, .val ov1143, .val (.ref b1158), .val (.ref r_1218), .val (.ref q_1193), .val (.int (1 : Int32))]) rfl ?_
    refine aLw X1227 hx (hb hby at_344) (q := 346) rfl rfl rfl ?_
    refine g_vi X1227 hx hZ0 hown0 (wd147 hw) (wd148 hw) (notFace_of_selects (args := #[]) (mvT hZ0 (wd150 hw))) (wd150 hw) (wd149 hw) (by decide) q1218_1 e1227 (Con.back (W := 0) (rm_get_submittedBy l Z a0 hw zC SC PC aE SE aD SD aM SM mO MO r_1218 b491 T1218.heap f1221 q1218_2) hZ0 (wd151 hw) (wd74 hw) (by decide) (by decide)) (by rw [hml]; rfl) (lenOf pd20 rfl) rfl (Nat.le_of_eq rfl) (hb hby at_346) (q := 349) rfl (by decide) (by decide) ?_
    intro v1229 T1229 L1229 X1229 Q1229
    obtain ⟨rfl, Nq1229, e1229⟩ := Q1229
    have N1229 := Fr.app N1227 Nq1229
    show Go _ _ _ _ (T1229.setTop (mkF m 349 #[.val (.int p0), .val (.int p1), .val (.int p2), .val (.int p3), .val (.int p4), .val (.int p5), .val (.ref b491), .val ov512, .val (.ref b538), .val (.ref b561), .val (.int (1 : Int32)), .val (.ref b959), .val (.ref b966), .val (.ref b973), .val ov1130, .val ov1143, .val (.ref b1158), .val (.ref r_1218), .val (.ref q_1193), .val (.int (1 : Int32))] [(.ref b491)]))
    refine aLw X1229 hx (hb hby at_349) (q := 351) rfl rfl rfl ?_
    refine g_acmp X1229 hx (hb hby at_351) (q := 354) rfl rfl (same := true) (decide_eq_true rfl) (by decide) (by decide) ?_
    refine iLw X1229 hx (hb hby at_354) (q := 356) rfl rfl ?_
    refine ifN X1229 hx (hb hby at_356) (q := 359) rfl (by decide) ?_
    refine aLw X1229 hx (hb hby at_359) (q := 361) rfl rfl rfl ?_
    refine g_vi X1229 hx hZ0 hown0 (wd152 hw) (wd153 hw) (notFace_of_selects (args := #[]) (mvT hZ0 (wd155 hw))) (wd155 hw) (wd154 hw) (by decide) q1218_1 e1229 (Con.back (W := 0) (rm_get_signedOffBy l Z a0 hw zC SC PC aE SE aD SD aM SM mO MO r_1218 T1218.heap f1221 q1218_4) hZ0 (wd156 hw) (wd74 hw) (by decide) (by decide)) (by rw [hml]; rfl) (lenOf pd20 rfl) rfl (Nat.le_of_eq rfl) (hb hby at_361) (q := 364) rfl (by decide) (by decide) ?_
    intro v1230 T1230 L1230 X1230 Q1230
    obtain ⟨rfl, Nq1230, e1230⟩ := Q1230
    have N1230 := Fr.app N1229 Nq1230
    show Go _ _ _ _ (T1230.setTop (mkF m 364 #[.val (.int p0), .val (.int p1), .val (.int p2), .val (.int p3), .val (.int p4), .val (.int p5), .val (.ref b491), .val ov512, .val (.ref b538), .val (.ref b561), .val (.int (1 : Int32)), .val (.ref b959), .val (.ref b966), .val (.ref b973), .val ov1130, .val ov1143, .val (.ref b1158), .val (.ref r_1218), .val (.ref q_1193), .val (.int (1 : Int32))] [.null]))
    refine nnN X1230 hx (hb hby at_364) (q := 367) rfl ?_
    refine aLw X1230 hx (hb hby at_367) (q := 369) rfl rfl rfl ?_
    refine g_vi X1230 hx hZ0 hown0 (wd157 hw) (wd158 hw) (notFace_of_selects (args := #[]) (mvT hZ0 (wd160 hw))) (wd160 hw) (wd159 hw) (by decide) q1218_1 e1230 (Con.back (W := 0) (rm_get_withdrawn l Z a0 hw zC SC PC aE SE aD SD aM SM mO MO r_1218 ov1143 T1218.heap f1221 q1218_5 r1143) hZ0 (wd161 hw) (wd74 hw) (by decide) (by decide)) (by rw [hml]; rfl) (lenOf pd21 rfl) rfl (Nat.le_of_eq rfl) (hb hby at_369) (q := 372) rfl (by decide) (by decide) ?_
    intro v1231 T1231 L1231 X1231 Q1231
    obtain ⟨rfl, Nq1231, e1231⟩ := Q1231
    have N1231 := Fr.app N1230 Nq1231
    show Go _ _ _ _ (T1231.setTop (mkF m 372 #[.val (.int p0), .val (.int p1), .val (.int p2), .val (.int p3), .val (.int p4), .val (.int p5), .val (.ref b491), .val ov512, .val (.ref b538), .val (.ref b561), .val (.int (1 : Int32)), .val (.ref b959), .val (.ref b966), .val (.ref b973), .val ov1130, .val ov1143, .val (.ref b1158), .val (.ref r_1218), .val (.ref q_1193), .val (.int (1 : Int32))] [ov1143]))
    refine aLw X1231 hx (hb hby at_372) (q := 374) rfl rfl r1143 ?_
    refine g_acmp X1231 hx (hb hby at_374) (q := 377) r1143 r1143 (same := true) (decide_eq_true rfl) (by decide) (by decide) ?_
    refine cI X1231 hx (hb hby at_377) (q := 378) rfl (z := (1 : Int32)) rfl ?_
    refine g_goto X1231 hx (hb hby at_378) (q := 382) (by decide) (by decide) ?_
    refine endP X1231 hlk (fun h => by rw [hret] at h; cases h) (lastN X1231 hx (t := .boolean) (z' := (1 : Int32)) hret (by simp) (by decide) (hb hby at_382)) ?_ (by decide) (by decide)
    rw [e1231]
    exact ⟨rfl, N1231, trivial⟩
  · rw [hk580]
    show Go _ _ _ _ (T567.setTop (mkF m 133 #[.val (.int p0), .val (.int p1), .val (.int p2), .val (.int p3), .val (.int p4), .val (.int p5), .val (.ref b491), .val ov512, .val (.ref b538), .val (.ref b561), .unset, .unset, .unset, .unset, .unset, .unset, .unset, .unset, .unset, .unset] [(.int (2 : Int32))]))
    refine sIw X567 hx (hb hby at_133) (q := 135) rfl (Ls' := #[.val (.int p0), .val (.int p1), .val (.int p2), .val (.int p3), .val (.int p4), .val (.int p5), .val (.ref b491), .val ov512, .val (.ref b538), .val (.ref b561), .val (.int (2 : Int32)), .unset, .unset, .unset, .unset, .unset, .unset, .unset, .unset, .unset]) rfl ?_
    refine g_new X567 hx hZ0 hown0 (wd30 hw) (wd31 hw) (wd32 hw) (by decide) (by decide) rfl (hb hby at_135) (q := 138) rfl ?_
    intro T1232 h1232 b1232 g1232 X1232 e1232 E1232 A1232 D1232
    have F1232_43 := D1232 (Or.inr (wd43 hw)) (ty := .int) (by decide)
    have F1232_45 := D1232 (Or.inr (wd45 hw)) (ty := (.object "java/lang/String")) (by decide)
    have F1232_47 := D1232 (Or.inr (wd47 hw)) (ty := (.object "java/lang/String")) (by decide)
    refine g_dup X1232 hx (hb hby at_138) (q := 139) rfl rfl ?_
    refine iL X1232 hx (hb hby at_139) (q := 140) rfl rfl ?_
    refine aLw X1232 hx (hb hby at_140) (q := 142) rfl rfl rfl ?_
    refine aLw X1232 hx (hb hby at_142) (q := 144) rfl rfl rfl ?_
    have f1237 : Old Z Z.heap.size T567.heap := f569.keep K567q (allS gz570 all0)
    have gz1236 : Z.heap.size ≤ b1232 := Nat.le_trans f1237.2.1 (Nat.le_of_eq g1232.symm)
    have f1238 : Old Z Z.heap.size h1232 := f1237.ext E1232
    refine g_sp X1232 hx hZ0 hown0 (wd33 hw) (wd34 hw) (wd35 hw) rfl (by decide) e1232 (Con.back (W := 1) (rm_loinit l Z a0 hw zC SC PC aE SE aD SD aM SM mO MO b1232 p2 b538 b561 h1232 f1238 A1232 F1232_43 F1232_45 F1232_47 gz1236) hZ0 (wd35 hw) (wd32 hw) (by decide) (by decide)) (by rw [hml]; rfl) (lenOf pd16 rfl) rfl (Nat.le_of_eq rfl) (hb hby at_144) (q := 147) rfl (by decide) (by decide) ?_
    intro v1235 T1235 L1235 X1235 Q1235
    obtain ⟨rfl, Nq1235, K1235q, q1235_0⟩ := Q1235
    have N1235 := Fr.app N567 Nq1235
    show Go _ _ _ _ (T1235.setTop (mkF m 147 #[.val (.int p0), .val (.int p1), .val (.int p2), .val (.int p3), .val (.int p4), .val (.int p5), .val (.ref b491), .val ov512, .val (.ref b538), .val (.ref b561), .val (.int (2 : Int32)), .unset, .unset, .unset, .unset, .unset, .unset, .unset, .unset, .unset] [(.ref b1232)]))
    refine sAw X1235 hx (hb hby at_147) (q := 149) rfl rfl (Ls' := #[.val (.int p0), .val (.int p1), .val (.int p2), .val (.int p3), .val (.int p4), .val (.int p5), .val (.ref b491), .val ov512, .val (.ref b538), .val (.ref b561), .val (.int (2 : Int32)), .val (.ref b1232), .unset, .unset, .unset, .unset, .unset, .unset, .unset, .unset]) rfl ?_
    refine g_new X1235 hx hZ0 hown0 (wd30 hw) (wd31 hw) (wd32 hw) (by decide) (by decide) rfl (hb hby at_149) (q := 152) rfl ?_
    intro T1239 h1239 b1239 g1239 X1239 e1239 E1239 A1239 D1239
    have F1239_43 := D1239 (Or.inr (wd43 hw)) (ty := .int) (by decide)
    have F1239_45 := D1239 (Or.inr (wd45 hw)) (ty := (.object "java/lang/String")) (by decide)
    have F1239_47 := D1239 (Or.inr (wd47 hw)) (ty := (.object "java/lang/String")) (by decide)
    refine g_dup X1239 hx (hb hby at_152) (q := 153) rfl rfl ?_
    refine iL X1239 hx (hb hby at_153) (q := 154) rfl rfl ?_
    refine aLw X1239 hx (hb hby at_154) (q := 156) rfl rfl rfl ?_
    refine aLw X1239 hx (hb hby at_156) (q := 158) rfl rfl rfl ?_
    have f1244 : Old Z Z.heap.size T1235.heap := f1238.keep K1235q (allS gz1236 all0)
    have gz1243 : Z.heap.size ≤ b1239 := Nat.le_trans f1244.2.1 (Nat.le_of_eq g1239.symm)
    have f1245 : Old Z Z.heap.size h1239 := f1244.ext E1239
    refine g_sp X1239 hx hZ0 hown0 (wd33 hw) (wd34 hw) (wd35 hw) rfl (by decide) e1239 (Con.back (W := 1) (rm_loinit l Z a0 hw zC SC PC aE SE aD SD aM SM mO MO b1239 p3 b561 b538 h1239 f1245 A1239 F1239_43 F1239_45 F1239_47 gz1243) hZ0 (wd35 hw) (wd32 hw) (by decide) (by decide)) (by rw [hml]; rfl) (lenOf pd16 rfl) rfl (Nat.le_of_eq rfl) (hb hby at_158) (q := 161) rfl (by decide) (by decide) ?_
    intro v1242 T1242 L1242 X1242 Q1242
    obtain ⟨rfl, Nq1242, K1242q, q1242_0⟩ := Q1242
    have N1242 := Fr.app N1235 Nq1242
    show Go _ _ _ _ (T1242.setTop (mkF m 161 #[.val (.int p0), .val (.int p1), .val (.int p2), .val (.int p3), .val (.int p4), .val (.int p5), .val (.ref b491), .val ov512, .val (.ref b538), .val (.ref b561), .val (.int (2 : Int32)), .val (.ref b1232), .unset, .unset, .unset, .unset, .unset, .unset, .unset, .unset] [(.ref b1239)]))
    refine sAw X1242 hx (hb hby at_161) (q := 163) rfl rfl (Ls' := #[.val (.int p0), .val (.int p1), .val (.int p2), .val (.int p3), .val (.int p4), .val (.int p5), .val (.ref b491), .val ov512, .val (.ref b538), .val (.ref b561), .val (.int (2 : Int32)), .val (.ref b1232), .val (.ref b1239), .unset, .unset, .unset, .unset, .unset, .unset, .unset]) rfl ?_
    refine g_new X1242 hx hZ0 hown0 (wd48 hw) (wd49 hw) (wd50 hw) (by decide) (by decide) rfl (hb hby at_163) (q := 166) rfl ?_
    intro T1246 h1246 b1246 g1246 X1246 e1246 E1246 A1246 D1246
    have F1246_68 := D1246 (Or.inl (wd68 hw)) (ty := .int) (by decide)
    have F1246_71 := D1246 (Or.inl (wd71 hw)) (ty := (.array (.object "java/lang/Object"))) (by decide)
    have F1246_103 := D1246 (Or.inl (wd103 hw)) (ty := .int) (by decide)
    refine g_dup X1246 hx (hb hby at_166) (q := 167) rfl rfl ?_
    have f1251 : Old Z Z.heap.size T1242.heap := f1245.keep K1242q (allS gz1243 all0)
    have gz1250 : Z.heap.size ≤ b1246 := Nat.le_trans f1251.2.1 (Nat.le_of_eq g1246.symm)
    have f1252 : Old Z Z.heap.size h1246 := f1251.ext E1246
    refine g_sp X1246 hx hZ0 hown0 (wd51 hw) (wd52 hw) (wd53 hw) rfl (by decide) e1246 (Con.back (W := 1) (rm_alinit l Z a0 hw zC SC PC aE SE aD SD aM SM mO MO b1246 h1246 f1252 A1246 F1246_68 gz1250 F1246_103 F1246_71) hZ0 (wd53 hw) (wd50 hw) (by decide) (by decide)) (by rw [hml]; rfl) (lenOf pd0 rfl) rfl (Nat.le_of_eq rfl) (hb hby at_167) (q := 170) rfl (by decide) (by decide) ?_
    intro v1249 T1249 L1249 X1249 Q1249
    obtain ⟨rfl, Nq1249, K1249q, q1249_0, q1249_1, q1249_2, q1249_3⟩ := Q1249
    have N1249 := Fr.app N1242 Nq1249
    show Go _ _ _ _ (T1249.setTop (mkF m 170 #[.val (.int p0), .val (.int p1), .val (.int p2), .val (.int p3), .val (.int p4), .val (.int p5), .val (.ref b491), .val ov512, .val (.ref b538), .val (.ref b561), .val (.int (2 : Int32)), .val (.ref b1232), .val (.ref b1239), .unset, .unset, .unset, .unset, .unset, .unset, .unset] [(.ref b1246)]))
    refine sAw X1249 hx (hb hby at_170) (q := 172) rfl rfl (Ls' := #[.val (.int p0), .val (.int p1), .val (.int p2), .val (.int p3), .val (.int p4), .val (.int p5), .val (.ref b491), .val ov512, .val (.ref b538), .val (.ref b561), .val (.int (2 : Int32)), .val (.ref b1232), .val (.ref b1239), .val (.ref b1246), .unset, .unset, .unset, .unset, .unset, .unset]) rfl ?_
    refine iLw X1249 hx (hb hby at_172) (q := 174) rfl rfl ?_
    refine cI X1249 hx (hb hby at_174) (q := 175) rfl (z := (1 : Int32)) rfl ?_
    refine icN X1249 hx (hb hby at_175) (q := 178) rfl (by decide) ?_
    refine aLw X1249 hx (hb hby at_178) (q := 180) rfl rfl rfl ?_
    refine aLw X1249 hx (hb hby at_180) (q := 182) rfl rfl rfl ?_
    have f1328 : Exa Z h491 aD "[Ljava/lang/Object;" := PD1.ext E491
    have f1329 : Exa Z h492 aD "[Ljava/lang/Object;" := f1328.ext E492
    have f1330 : Exa Z h493 aD "[Ljava/lang/Object;" := f1329.wr W493
    have f1331 : Exa Z h496 aD "[Ljava/lang/Object;" := f1330.wr W496
    have f1332 : Exa Z T497.heap aD "[Ljava/lang/Object;" := f1331.keep K497q
    have f1333 : Exa Z h512 aD "[Ljava/lang/Object;" := f1332.keep K512q
    have f1334 : Exa Z h538 aD "[Ljava/lang/Object;" := f1333.ext E538
    have f1335 : Exa Z h539 aD "[Ljava/lang/Object;" := f1334.ext E539
    have f1336 : Exa Z h540 aD "[Ljava/lang/Object;" := f1335.wr W540
    have f1337 : Exa Z h545 aD "[Ljava/lang/Object;" := f1336.wr W545
    have f1338 : Exa Z T546.heap aD "[Ljava/lang/Object;" := f1337.keep K546q
    have f1339 : Exa Z h561 aD "[Ljava/lang/Object;" := f1338.ext E561
    have f1340 : Exa Z h562 aD "[Ljava/lang/Object;" := f1339.ext E562
    have f1341 : Exa Z h563 aD "[Ljava/lang/Object;" := f1340.wr W563
    have f1342 : Exa Z T567.heap aD "[Ljava/lang/Object;" := f1341.keep K567q
    have f1343 : Exa Z h1232 aD "[Ljava/lang/Object;" := f1342.ext E1232
    have f1344 : Exa Z T1235.heap aD "[Ljava/lang/Object;" := f1343.keep K1235q
    have f1345 : Exa Z h1239 aD "[Ljava/lang/Object;" := f1344.ext E1239
    have f1346 : Exa Z T1242.heap aD "[Ljava/lang/Object;" := f1345.keep K1242q
    have f1347 : Exa Z h1246 aD "[Ljava/lang/Object;" := f1346.ext E1246
    have f1348 : Exa Z T1249.heap aD "[Ljava/lang/Object;" := f1347.keep K1249q
    have f1349 : Arv Z h491 aD dK (.object "java/lang/Object") (0 : Int32) dL .null := PD2.ext E491
    have f1350 : Arv Z h492 aD dK (.object "java/lang/Object") (0 : Int32) dL .null := f1349.ext E492
    have le1351 : (h0).size ≤ (h491).size := E491.1
    have ne1352 : aD ≠ b492 := (Nat.ne_of_lt (Nat.lt_of_lt_of_le (Nat.lt_of_lt_of_le PD1.lt le1351) (Nat.le_of_eq g492.symm)))
    have f1353 : Arv Z h493 aD dK (.object "java/lang/Object") (0 : Int32) dL .null := f1350.other W493 ne1352
    have f1354 : Arv Z h496 aD dK (.object "java/lang/Object") (0 : Int32) dL .null := f1353.other W496 ne1352
    have ne1355 : aD ≠ b491 := (Nat.ne_of_lt (Nat.lt_of_lt_of_le (Nat.lt_of_lt_of_le PD1.lt (Nat.le_refl _)) (Nat.le_of_eq g491.symm)))
    have f1356 : Arv Z T497.heap aD dK (.object "java/lang/Object") (0 : Int32) dL .null := f1354.keep K497q (ninS ne1355 nin0)
    have f1357 : Arv Z h512 aD dK (.object "java/lang/Object") (0 : Int32) dL .null := f1356.keep K512q nin0
    have f1358 : Arv Z h538 aD dK (.object "java/lang/Object") (0 : Int32) dL .null := f1357.ext E538
    have f1359 : Arv Z h539 aD dK (.object "java/lang/Object") (0 : Int32) dL .null := f1358.ext E539
    have le1360 : (h0).size ≤ (h492).size := (Nat.le_trans le1351 E492.1)
    have le1361 : (h0).size ≤ (h493).size := (Nat.le_trans le1360 (Nat.le_of_eq (Wr.size W493).symm))
    have le1362 : (h0).size ≤ (h496).size := (Nat.le_trans le1361 (Nat.le_of_eq (Wr.size W496).symm))
    have le1363 : (h0).size ≤ (T497.heap).size := (Nat.le_trans le1362 K497q.1)
    have le1364 : (h0).size ≤ (h512).size := (Nat.le_trans le1363 K512q.1)
    have le1365 : (h0).size ≤ (h538).size := (Nat.le_trans le1364 E538.1)
    have ne1366 : aD ≠ b539 := (Nat.ne_of_lt (Nat.lt_of_lt_of_le (Nat.lt_of_lt_of_le PD1.lt le1365) (Nat.le_of_eq g539.symm)))
    have f1367 : Arv Z h540 aD dK (.object "java/lang/Object") (0 : Int32) dL .null := f1359.other W540 ne1366
    have f1368 : Arv Z h545 aD dK (.object "java/lang/Object") (0 : Int32) dL .null := f1367.other W545 ne1366
    have ne1369 : aD ≠ b538 := (Nat.ne_of_lt (Nat.lt_of_lt_of_le (Nat.lt_of_lt_of_le PD1.lt le1364) (Nat.le_of_eq g538.symm)))
    have f1370 : Arv Z T546.heap aD dK (.object "java/lang/Object") (0 : Int32) dL .null := f1368.keep K546q (ninS ne1369 nin0)
    have f1371 : Arv Z h561 aD dK (.object "java/lang/Object") (0 : Int32) dL .null := f1370.ext E561
    have f1372 : Arv Z h562 aD dK (.object "java/lang/Object") (0 : Int32) dL .null := f1371.ext E562
    have le1373 : (h0).size ≤ (h539).size := (Nat.le_trans le1365 E539.1)
    have le1374 : (h0).size ≤ (h540).size := (Nat.le_trans le1373 (Nat.le_of_eq (Wr.size W540).symm))
    have le1375 : (h0).size ≤ (h545).size := (Nat.le_trans le1374 (Nat.le_of_eq (Wr.size W545).symm))
    have le1376 : (h0).size ≤ (T546.heap).size := (Nat.le_trans le1375 K546q.1)
    have le1377 : (h0).size ≤ (h561).size := (Nat.le_trans le1376 E561.1)
    have ne1378 : aD ≠ b562 := (Nat.ne_of_lt (Nat.lt_of_lt_of_le (Nat.lt_of_lt_of_le PD1.lt le1377) (Nat.le_of_eq g562.symm)))
    have f1379 : Arv Z h563 aD dK (.object "java/lang/Object") (0 : Int32) dL .null := f1372.other W563 ne1378
    have ne1380 : aD ≠ b561 := (Nat.ne_of_lt (Nat.lt_of_lt_of_le (Nat.lt_of_lt_of_le PD1.lt le1376) (Nat.le_of_eq g561.symm)))
    have f1381 : Arv Z T567.heap aD dK (.object "java/lang/Object") (0 : Int32) dL .null := f1379.keep K567q (ninS ne1380 nin0)
    have f1382 : Arv Z h1232 aD dK (.object "java/lang/Object") (0 : Int32) dL .null := f1381.ext E1232
    have le1383 : (h0).size ≤ (h562).size := (Nat.le_trans le1377 E562.1)
    have le1384 : (h0).size ≤ (h563).size := (Nat.le_trans le1383 (Nat.le_of_eq (Wr.size W563).symm))
    have le1385 : (h0).size ≤ (T567.heap).size := (Nat.le_trans le1384 K567q.1)
    have ne1386 : aD ≠ b1232 := (Nat.ne_of_lt (Nat.lt_of_lt_of_le (Nat.lt_of_lt_of_le PD1.lt le1385) (Nat.le_of_eq g1232.symm)))
    have f1387 : Arv Z T1235.heap aD dK (.object "java/lang/Object") (0 : Int32) dL .null := f1382.keep K1235q (ninS ne1386 nin0)
    have f1388 : Arv Z h1239 aD dK (.object "java/lang/Object") (0 : Int32) dL .null := f1387.ext E1239
    have le1389 : (h0).size ≤ (h1232).size := (Nat.le_trans le1385 E1232.1)
    have le1390 : (h0).size ≤ (T1235.heap).size := (Nat.le_trans le1389 K1235q.1)
    have ne1391 : aD ≠ b1239 := (Nat.ne_of_lt (Nat.lt_of_lt_of_le (Nat.lt_of_lt_of_le PD1.lt le1390) (Nat.le_of_eq g1239.symm)))
    have f1392 : Arv Z T1242.heap aD dK (.object "java/lang/Object") (0 : Int32) dL .null := f1388.keep K1242q (ninS ne1391 nin0)
    have f1393 : Arv Z h1246 aD dK (.object "java/lang/Object") (0 : Int32) dL .null := f1392.ext E1246
    have le1394 : (h0).size ≤ (h1239).size := (Nat.le_trans le1390 E1239.1)
    have le1395 : (h0).size ≤ (T1242.heap).size := (Nat.le_trans le1394 K1242q.1)
    have ne1396 : aD ≠ b1246 := (Nat.ne_of_lt (Nat.lt_of_lt_of_le (Nat.lt_of_lt_of_le PD1.lt le1395) (Nat.le_of_eq g1246.symm)))
    have f1397 : Arv Z T1249.heap aD dK (.object "java/lang/Object") (0 : Int32) dL .null := f1393.keep K1249q (ninS ne1396 nin0)
    have f1398 : Exa Z h1239 b1232 "com/example/quaymark/quaymark/Review$LeftOut" := q1235_0.ext E1239
    have f1399 : Exa Z T1242.heap b1232 "com/example/quaymark/quaymark/Review$LeftOut" := f1398.keep K1242q
    have f1400 : Exa Z h1246 b1232 "com/example/quaymark/quaymark/Review$LeftOut" := f1399.ext E1246
    have f1401 : Exa Z T1249.heap b1232 "com/example/quaymark/quaymark/Review$LeftOut" := f1400.keep K1249q
    have f1402 : Old Z Z.heap.size T1249.heap := f1252.keep K1249q (allS gz1250 all0)
    refine g_if X1249 hx hZ0 hown0 (wd173 hw) (wd174 hw) (wd175 hw) rfl (wd176 hw) (wd177 hw) (wd178 hw) (wd179 hw) (wd180 hw) (by decide) q1249_0 rfl (Con.back (W := 0) (rm_add1a l Z a0 hw zC SC PC aE SE aD SD aM SM mO MO b1246 b1232 dK dL T1249.heap f1402 q1249_0 q1249_2 q1249_3 gz1250 f1348 f1397 f1401 q1249_1) hZ0 (wd181 hw) (wd50 hw) (by decide) (by decide)) (by rw [hml]; rfl) (lenOf pd22 rfl) rfl (Nat.le_of_eq rfl) (hb hby at_182) (q := 187) rfl (by decide) (by decide) ?_
    intro v1327 T1327 L1327 X1327 Q1327
    obtain ⟨r_1327, kr_1327, rfl, Nq1327, K1327q, q1327_0, q1327_1, q1327_2, q1327_3, q1327_4, q1327_5, q1327_6, q1327_7⟩ := Q1327
    have N1327 := Fr.app N1249 Nq1327
    show Go _ _ _ _ (T1327.setTop (mkF m 187 #[.val (.int p0), .val (.int p1), .val (.int p2), .val (.int p3), .val (.int p4), .val (.int p5), .val (.ref b491), .val ov512, .val (.ref b538), .val (.ref b561), .val (.int (2 : Int32)), .val (.ref b1232), .val (.ref b1239), .val (.ref b1246), .unset, .unset, .unset, .unset, .unset, .unset] [(.int (1 : Int32))]))
    refine g_pop X1327 hx (hb hby at_187) (q := 188) rfl rfl ?_
    refine iLw X1327 hx (hb hby at_188) (q := 190) rfl rfl ?_
    refine cI X1327 hx (hb hby at_190) (q := 191) rfl (z := (2 : Int32)) rfl ?_
    refine icN X1327 hx (hb hby at_191) (q := 194) rfl (by decide) ?_
    refine aLw X1327 hx (hb hby at_194) (q := 196) rfl rfl rfl ?_
    refine aLw X1327 hx (hb hby at_196) (q := 198) rfl rfl rfl ?_
    have gz1408 : Z.heap.size ≤ r_1327 := Nat.le_trans f1402.2.1 q1327_3
    have f1409 : Exa Z h1246 b1239 "com/example/quaymark/quaymark/Review$LeftOut" := q1242_0.ext E1246
    have f1410 : Exa Z T1249.heap b1239 "com/example/quaymark/quaymark/Review$LeftOut" := f1409.keep K1249q
    have f1411 : Exa Z T1327.heap b1239 "com/example/quaymark/quaymark/Review$LeftOut" := f1410.keep K1327q
    have f1412 : Old Z Z.heap.size T1327.heap := f1402.keep K1327q (allS gz1250 all0)
    refine g_if X1327 hx hZ0 hown0 (wd173 hw) (wd174 hw) (wd175 hw) rfl (wd176 hw) (wd177 hw) (wd178 hw) (wd179 hw) (wd180 hw) (by decide) q1327_0 rfl (Con.back (W := 0) (rm_add1b l Z a0 hw zC SC PC aE SE aD SD aM SM mO MO b1246 b1232 b1239 r_1327 kr_1327 T1327.heap f1412 q1327_0 q1327_1 q1327_2 gz1250 q1327_4 q1327_5 q1327_6 gz1408 f1411 q1327_7) hZ0 (wd181 hw) (wd50 hw) (by decide) (by decide)) (by rw [hml]; rfl) (lenOf pd22 rfl) rfl (Nat.le_of_eq rfl) (hb hby at_198) (q := 203) rfl (by decide) (by decide) ?_
    intro v1407 T1407 L1407 X1407 Q1407
    obtain ⟨rfl, Nq1407, K1407q, q1407_0, q1407_1, q1407_2, q1407_3, q1407_4⟩ := Q1407
    have N1407 := Fr.app N1327 Nq1407
    show Go _ _ _ _ (T1407.setTop (mkF m 203 #[.val (.int p0), .val (.int p1), .val (.int p2), .val (.int p3), .val (.int p4), .val (.int p5), .val (.ref b491), .val ov512, .val (.ref b538), .val (.ref b561), .val (.int (2 : Int32)), .val (.ref b1232), .val (.ref b1239), .val (.ref b1246), .unset, .unset, .unset, .unset, .unset, .unset] [(.int (1 : Int32))]))
    refine g_pop X1407 hx (hb hby at_203) (q := 204) rfl rfl ?_
    refine iLw X1407 hx (hb hby at_204) (q := 206) rfl rfl ?_
    refine bI X1407 hx (hb hby at_206) (q := 208) rfl (z := (8 : Int32)) rfl ?_
    refine g_iand X1407 hx (hb hby at_208) (q := 209) rfl rfl ?_
    suffices kk1413 : ∀ (T1413 : State) (h1413 : Heap) (L1413 : List Loc) (ov1413 : Value) , ov1413.isRef = true → Stand p l e room_1 s m #[.int p0, .int p1, .int p2, .int p3, .int p4, .int p5] below meth c T1413 L1413 17 49 → T1413.heap = h1413 → Keep T1407.heap h1413 [] → Fr Z.heap.size L1413 → Go p.tables e below (PEnd s (Q_law Z zC aE aD aM mO p0 p1 p2 p3 p4 p5 eA eK eL dK dL h0) room_1.cells room_1.slots) (T1413.setTop (mkF m 227 #[.val (.int p0), .val (.int p1), .val (.int p2), .val (.int p3), .val (.int p4), .val (.int p5), .val (.ref b491), .val ov512, .val (.ref b538), .val (.ref b561), .val (.int (2 : Int32)), .val (.ref b1232), .val (.ref b1239), .val (.ref b1246), .unset, .unset, .unset, .unset, .unset, .unset] [ov1413])) by
      by_cases hc1414 : (p4 &&& (8 : Int32)) = (0 : Int32)
      · refine ifY X1407 hx (hb hby at_209) (q := 226) (by decide) (by decide) ((if0 _ _).trans (teq hc1414).1) ?_
        refine cN X1407 hx (hb hby at_226) (q := 227) rfl ?_
        exact kk1413 _ _ _ .null rfl (X1407.more (by decide) (by decide)) rfl (Keep.refl T1407.heap []) N1407
      · refine ifN X1407 hx (hb hby at_209) (q := 212) rfl ((if0 _ _).trans (feq hc1414).1) ?_
        refine g_new X1407 hx hZ0 hown0 (wd162 hw) (wd163 hw) (wd164 hw) (by decide) (by decide) rfl (hb hby at_212) (q := 215) rfl ?_
        intro T1416 h1416 b1416 g1416 X1416 e1416 E1416 A1416 D1416
        have F1416_170 := D1416 (Or.inr (wd170 hw)) (ty := (.object "java/lang/String")) (by decide)
        have F1416_172 := D1416 (Or.inr (wd172 hw)) (ty := (.object "java/lang/String")) (by decide)
        refine g_dup X1416 hx (hb hby at_215) (q := 216) rfl rfl ?_
        refine aLw X1416 hx (hb hby at_216) (q := 218) rfl rfl rfl ?_
        refine aLw X1416 hx (hb hby at_218) (q := 220) rfl rfl rfl ?_
        have f1421 : Old Z Z.heap.size T1407.heap := f1412.keep K1407q (allS gz1250 (allS gz1408 all0))
        have gz1420 : Z.heap.size ≤ b1416 := Nat.le_trans f1421.2.1 (Nat.le_of_eq g1416.symm)
        have f1422 : Old Z Z.heap.size h1416 := f1421.ext E1416
        refine g_sp X1416 hx hZ0 hown0 (wd165 hw) (wd166 hw) (wd167 hw) rfl (by decide) e1416 (Con.back (W := 1) (rm_wdinit l Z a0 hw zC SC PC aE SE aD SD aM SM mO MO b1416 b538 b561 h1416 f1422 A1416 F1416_170 F1416_172 gz1420) hZ0 (wd167 hw) (wd164 hw) (by decide) (by decide)) (by rw [hml]; rfl) (lenOf pd17 rfl) rfl (Nat.le_of_eq rfl) (hb hby at_220) (q := 223) rfl (by decide) (by decide) ?_
        intro v1419 T1419 L1419 X1419 Q1419
        obtain ⟨rfl, Nq1419, K1419q, q1419_0⟩ := Q1419
        have N1419 := Fr.app N1407 Nq1419
        show Go _ _ _ _ (T1419.setTop (mkF m 223 #[.val (.int p0), .val (.int p1), .val (.int p2), .val (.int p3), .val (.int p4), .val (.int p5), .val (.ref b491), .val ov512, .val (.ref b538), .val (.ref b561), .val (.int (2 : Int32)), .val (.ref b1232), .val (.ref b1239), .val (.ref b1246), .unset, .unset, .unset, .unset, .unset, .unset] [(.ref b1416)]))
        refine g_goto X1419 hx (hb hby at_223) (q := 227) (by decide) (by decide) ?_
        have K1424 : Keep T1407.heap h1416 [] := (Keep.refl T1407.heap []).ext E1416
        have K1425 : Keep T1407.heap T1419.heap [] := K1424.trans K1419q (allS (Or.inr (Nat.le_trans (Nat.le_refl _) (Nat.le_of_eq g1416.symm))) all0)
        exact kk1413 _ _ _ (.ref b1416) rfl (X1419.more (by decide) (by decide)) rfl K1425 N1419
    intro T1413 h1413 L1413 ov1413 r1413 X1413 e1413 K1413q N1413
    show Go _ _ _ _ (T1413.setTop (mkF m 227 #[.val (.int p0), .val (.int p1), .val (.int p2), .val (.int p3), .val (.int p4), .val (.int p5), .val (.ref b491), .val ov512, .val (.ref b538), .val (.ref b561), .val (.int (2 : Int32)), .val (.ref b1232), .val (.ref b1239), .val (.ref b1246), .unset, .unset, .unset, .unset, .unset, .unset] [ov1413]))
    refine sAw X1413 hx (hb hby at_227) (q := 229) rfl r1413 (Ls' := #[.val (.int p0), .val (.int p1), .val (.int p2), .val (.int p3), .val (.int p4), .val (.int p5), .val (.ref b491), .val ov512, .val (.ref b538), .val (.ref b561), .val (.int (2 : Int32)), .val (.ref b1232), .val (.ref b1239), .val (.ref b1246), .val ov1413, .unset, .unset, .unset, .unset, .unset]) (by rcases ref_cases r1413 with q | ⟨_, q⟩ <;> (rw [q]; rfl)) ?_
    refine iLw X1413 hx (hb hby at_229) (q := 231) rfl rfl ?_
    refine bI X1413 hx (hb hby at_231) (q := 233) rfl (z := (16 : Int32)) rfl ?_
    refine g_iand X1413 hx (hb hby at_233) (q := 234) rfl rfl ?_
    suffices kk1426 : ∀ (T1426 : State) (h1426 : Heap) (L1426 : List Loc) (ov1426 : Value) , ov1426.isRef = true → Stand p l e room_1 s m #[.int p0, .int p1, .int p2, .int p3, .int p4, .int p5] below meth c T1426 L1426 18 51 → T1426.heap = h1426 → Keep h1413 h1426 [] → Fr Z.heap.size L1426 → Go p.tables e below (PEnd s (Q_law Z zC aE aD aM mO p0 p1 p2 p3 p4 p5 eA eK eL dK dL h0) room_1.cells room_1.slots) (T1426.setTop (mkF m 252 #[.val (.int p0), .val (.int p1), .val (.int p2), .val (.int p3), .val (.int p4), .val (.int p5), .val (.ref b491), .val ov512, .val (.ref b538), .val (.ref b561), .val (.int (2 : Int32)), .val (.ref b1232), .val (.ref b1239), .val (.ref b1246), .val ov1413, .unset, .unset, .unset, .unset, .unset] [ov1426])) by
      by_cases hc1427 : (p4 &&& (16 : Int32)) = (0 : Int32)
      · refine ifY X1413 hx (hb hby at_234) (q := 251) (by decide) (by decide) ((if0 _ _).trans (teq hc1427).1) ?_
        refine cN X1413 hx (hb hby at_251) (q := 252) rfl ?_
        exact kk1426 _ _ _ .null rfl (X1413.more (by decide) (by decide)) e1413 (Keep.refl h1413 []) N1413
      · refine ifN X1413 hx (hb hby at_234) (q := 237) rfl ((if0 _ _).trans (feq hc1427).1) ?_
        refine g_new X1413 hx hZ0 hown0 (wd162 hw) (wd163 hw) (wd164 hw) (by decide) (by decide) e1413 (hb hby at_237) (q := 240) rfl ?_
        intro T1429 h1429 b1429 g1429 X1429 e1429 E1429 A1429 D1429
        have F1429_170 := D1429 (Or.inr (wd170 hw)) (ty := (.object "java/lang/String")) (by decide)
        have F1429_172 := D1429 (Or.inr (wd172 hw)) (ty := (.object "java/lang/String")) (by decide)
        refine g_dup X1429 hx (hb hby at_240) (q := 241) rfl rfl ?_
        refine aLw X1429 hx (hb hby at_241) (q := 243) rfl rfl rfl ?_
        refine aLw X1429 hx (hb hby at_243) (q := 245) rfl rfl rfl ?_
        have f1435 : Old Z Z.heap.size T1407.heap := f1412.keep K1407q (allS gz1250 (allS gz1408 all0))
        have f1436 : Old Z Z.heap.size h1413 := f1435.keep K1413q all0
        have gz1434 : Z.heap.size ≤ b1429 := Nat.le_trans f1436.2.1 (Nat.le_of_eq g1429.symm)
        have f1437 : Old Z Z.heap.size h1429 := f1436.ext E1429
        refine g_sp X1429 hx hZ0 hown0 (wd165 hw) (wd166 hw) (wd167 hw) rfl (by decide) e1429 (Con.back (W := 1) (rm_wdinit l Z a0 hw zC SC PC aE SE aD SD aM SM mO MO b1429 b561 b538 h1429 f1437 A1429 F1429_170 F1429_172 gz1434) hZ0 (wd167 hw) (wd164 hw) (by decide) (by decide)) (by rw [hml]; rfl) (lenOf pd17 rfl) rfl (Nat.le_of_eq rfl) (hb hby at_245) (q := 248) rfl (by decide) (by decide) ?_
        intro v1433 T1433 L1433 X1433 Q1433
        obtain ⟨rfl, Nq1433, K1433q, q1433_0⟩ := Q1433
        have N1433 := Fr.app N1413 Nq1433
        show Go _ _ _ _ (T1433.setTop (mkF m 248 #[.val (.int p0), .val (.int p1), .val (.int p2), .val (.int p3), .val (.int p4), .val (.int p5), .val (.ref b491), .val ov512, .val (.ref b538), .val (.ref b561), .val (.int (2 : Int32)), .val (.ref b1232), .val (.ref b1239), .val (.ref b1246), .val ov1413, .unset, .unset, .unset, .unset, .unset] [(.ref b1429)]))
        refine g_goto X1433 hx (hb hby at_248) (q := 252) (by decide) (by decide) ?_
        have K1439 : Keep h1413 h1429 [] := (Keep.refl h1413 []).ext E1429
        have K1440 : Keep h1413 T1433.heap [] := K1439.trans K1433q (allS (Or.inr (Nat.le_trans (Nat.le_refl _) (Nat.le_of_eq g1429.symm))) all0)
        exact kk1426 _ _ _ (.ref b1429) rfl (X1433.more (by decide) (by decide)) rfl K1440 N1433
    intro T1426 h1426 L1426 ov1426 r1426 X1426 e1426 K1426q N1426
    show Go _ _ _ _ (T1426.setTop (mkF m 252 #[.val (.int p0), .val (.int p1), .val (.int p2), .val (.int p3), .val (.int p4), .val (.int p5), .val (.ref b491), .val ov512, .val (.ref b538), .val (.ref b561), .val (.int (2 : Int32)), .val (.ref b1232), .val (.ref b1239), .val (.ref b1246), .val ov1413, .unset, .unset, .unset, .unset, .unset] [ov1426]))
    refine sAw X1426 hx (hb hby at_252) (q := 254) rfl r1426 (Ls' := #[.val (.int p0), .val (.int p1), .val (.int p2), .val (.int p3), .val (.int p4), .val (.int p5), .val (.ref b491), .val ov512, .val (.ref b538), .val (.ref b561), .val (.int (2 : Int32)), .val (.ref b1232), .val (.ref b1239), .val (.ref b1246), .val ov1413, .val ov1426, .unset, .unset, .unset, .unset]) (by rcases ref_cases r1426 with q | ⟨_, q⟩ <;> (rw [q]; rfl)) ?_
    refine g_new X1426 hx hZ0 hown0 (wd72 hw) (wd73 hw) (wd74 hw) (by decide) (by decide) e1426 (hb hby at_254) (q := 257) rfl ?_
    intro T1441 h1441 b1441 g1441 X1441 e1441 E1441 A1441 D1441
    have F1441_109 := D1441 (Or.inr (wd109 hw)) (ty := (.object "java/lang/String")) (by decide)
    have F1441_111 := D1441 (Or.inr (wd111 hw)) (ty := (.object "java/util/List")) (by decide)
    have F1441_113 := D1441 (Or.inr (wd113 hw)) (ty := (.object "java/lang/String")) (by decide)
    have F1441_115 := D1441 (Or.inr (wd115 hw)) (ty := (.object "com/example/quaymark/quaymark/Review$Withdrawal")) (by decide)
    refine g_dup X1441 hx (hb hby at_257) (q := 258) rfl rfl ?_
    refine aLw X1441 hx (hb hby at_258) (q := 260) rfl rfl rfl ?_
    refine aLw X1441 hx (hb hby at_260) (q := 262) rfl rfl rfl ?_
    refine aLw X1441 hx (hb hby at_262) (q := 264) rfl rfl r512 ?_
    refine aLw X1441 hx (hb hby at_264) (q := 266) rfl rfl r1413 ?_
    have f1490 : Old Z Z.heap.size T1407.heap := f1412.keep K1407q (allS gz1250 (allS gz1408 all0))
    have f1491 : Old Z Z.heap.size h1413 := f1490.keep K1413q all0
    have f1492 : Old Z Z.heap.size h1426 := f1491.keep K1426q all0
    have gz1489 : Z.heap.size ≤ b1441 := Nat.le_trans f1492.2.1 (Nat.le_of_eq g1441.symm)
    have f1493 : Exa Z h1413 b1246 "java/util/ArrayList" := q1407_0.keep K1413q
    have f1494 : Exa Z h1426 b1246 "java/util/ArrayList" := f1493.keep K1426q
    have f1495 : Exa Z h1441 b1246 "java/util/ArrayList" := f1494.ext E1441
    have f1496 : Fld Z h1413 b1246 "java/util/ArrayList" "size" "I" (.int (2 : Int32)) := q1407_1.keep K1413q nin0
    have f1497 : Fld Z h1426 b1246 "java/util/ArrayList" "size" "I" (.int (2 : Int32)) := f1496.keep K1426q nin0
    have f1498 : Fld Z h1441 b1246 "java/util/ArrayList" "size" "I" (.int (2 : Int32)) := f1497.ext E1441
    have f1499 : Fld Z h1413 b1246 "java/util/ArrayList" "elementData" "[Ljava/lang/Object;" (.ref r_1327) := q1407_2.keep K1413q nin0
    have f1500 : Fld Z h1426 b1246 "java/util/ArrayList" "elementData" "[Ljava/lang/Object;" (.ref r_1327) := f1499.keep K1426q nin0
    have f1501 : Fld Z h1441 b1246 "java/util/ArrayList" "elementData" "[Ljava/lang/Object;" (.ref r_1327) := f1500.ext E1441
    have f1502 : Arv Z h1413 r_1327 kr_1327 (.object "java/lang/Object") (10 : Int32) [(.ref b1232), (.ref b1239), .null, .null, .null, .null, .null, .null, .null, .null] .null := q1407_3.keep K1413q nin0
    have f1503 : Arv Z h1426 r_1327 kr_1327 (.object "java/lang/Object") (10 : Int32) [(.ref b1232), (.ref b1239), .null, .null, .null, .null, .null, .null, .null, .null] .null := f1502.keep K1426q nin0
    have f1504 : Arv Z h1441 r_1327 kr_1327 (.object "java/lang/Object") (10 : Int32) [(.ref b1232), (.ref b1239), .null, .null, .null, .null, .null, .null, .null, .null] .null := f1503.ext E1441
    have f1505 : Exa Z h1413 r_1327 "[Ljava/lang/Object;" := q1407_4.keep K1413q
    have f1506 : Exa Z h1426 r_1327 "[Ljava/lang/Object;" := f1505.keep K1426q
    have f1507 : Exa Z h1441 r_1327 "[Ljava/lang/Object;" := f1506.ext E1441
    have f1508 : Exa Z T1327.heap b1232 "com/example/quaymark/quaymark/Review$LeftOut" := f1401.keep K1327q
    have f1509 : Exa Z T1407.heap b1232 "com/example/quaymark/quaymark/Review$LeftOut" := f1508.keep K1407q
    have f1510 : Exa Z h1413 b1232 "com/example/quaymark/quaymark/Review$LeftOut" := f1509.keep K1413q
    have f1511 : Exa Z h1426 b1232 "com/example/quaymark/quaymark/Review$LeftOut" := f1510.keep K1426q
    have f1512 : Exa Z h1441 b1232 "com/example/quaymark/quaymark/Review$LeftOut" := f1511.ext E1441
    have f1513 : Exa Z T1407.heap b1239 "com/example/quaymark/quaymark/Review$LeftOut" := f1411.keep K1407q
    have f1514 : Exa Z h1413 b1239 "com/example/quaymark/quaymark/Review$LeftOut" := f1513.keep K1413q
    have f1515 : Exa Z h1426 b1239 "com/example/quaymark/quaymark/Review$LeftOut" := f1514.keep K1426q
    have f1516 : Exa Z h1441 b1239 "com/example/quaymark/quaymark/Review$LeftOut" := f1515.ext E1441
    have f1517 : Old Z Z.heap.size h1441 := f1492.ext E1441
    refine g_sp X1441 hx hZ0 hown0 (wd75 hw) (wd76 hw) (wd77 hw) rfl (by decide) e1441 (Con.back (W := 1) (rm_rv2 l Z a0 hw zC SC PC aE SE aD SD aM SM mO MO b1441 b491 ov512 ov1413 b1246 r_1327 kr_1327 b1232 b1239 h1441 f1517 A1441 F1441_109 F1441_111 F1441_113 F1441_115 gz1489 r512 r1413 f1495 f1498 f1501 f1504 f1507 f1512 f1516) hZ0 (wd77 hw) (wd74 hw) (by decide) (by decide)) (by rw [hml]; rfl) (lenOf pd14 rfl) rfl (Nat.le_of_eq rfl) (hb hby at_266) (q := 269) rfl (by decide) (by decide) ?_
    intro v1488 T1488 L1488 X1488 Q1488
    obtain ⟨q_1488, rfl, Nq1488, K1488q, q1488_0, q1488_1, q1488_2, q1488_3, q1488_4, q1488_5, q1488_6, q1488_7, q1488_8⟩ := Q1488
    have N1488 := Fr.app N1426 Nq1488
    show Go _ _ _ _ (T1488.setTop (mkF m 269 #[.val (.int p0), .val (.int p1), .val (.int p2), .val (.int p3), .val (.int p4), .val (.int p5), .val (.ref b491), .val ov512, .val (.ref b538), .val (.ref b561), .val (.int (2 : Int32)), .val (.ref b1232), .val (.ref b1239), .val (.ref b1246), .val ov1413, .val ov1426, .unset, .unset, .unset, .unset] [(.ref b1441)]))
    refine sAw X1488 hx (hb hby at_269) (q := 271) rfl rfl (Ls' := #[.val (.int p0), .val (.int p1), .val (.int p2), .val (.int p3), .val (.int p4), .val (.int p5), .val (.ref b491), .val ov512, .val (.ref b538), .val (.ref b561), .val (.int (2 : Int32)), .val (.ref b1232), .val (.ref b1239), .val (.ref b1246), .val ov1413, .val ov1426, .val (.ref b1441), .unset, .unset, .unset]) rfl ?_
    refine aLw X1488 hx (hb hby at_271) (q := 273) rfl rfl rfl ?_
    refine aLw X1488 hx (hb hby at_273) (q := 275) rfl rfl r1426 ?_
    have f1519 : Old Z Z.heap.size T1488.heap := f1517.keep K1488q (allS gz1489 all0)
    refine g_vi X1488 hx hZ0 hown0 (wd116 hw) (wd117 hw) (notFace_of_selects (args := #[]) (mvT hZ0 (wd119 hw))) (wd119 hw) (wd118 hw) (by decide) q1488_0 rfl (Con.back (W := 0) (rm_withdrawing12 l Z a0 hw zC SC PC aE SE aD SD aM SM mO MO b1441 b491 q_1488 ov1426 T1488.heap f1519 q1488_1 q1488_2 q1488_6 r1426) hZ0 (wd120 hw) (wd74 hw) (by decide) (by decide)) (by rw [hml]; rfl) (lenOf pd18 rfl) rfl (Nat.le_of_eq rfl) (hb hby at_275) (q := 278) rfl (by decide) (by decide) ?_
    intro v1518 T1518 L1518 X1518 Q1518
    obtain ⟨r_1518, rfl, Nq1518, K1518q, q1518_0, q1518_1, q1518_2, q1518_3, q1518_4, q1518_5⟩ := Q1518
    have N1518 := Fr.app N1488 Nq1518
    show Go _ _ _ _ (T1518.setTop (mkF m 278 #[.val (.int p0), .val (.int p1), .val (.int p2), .val (.int p3), .val (.int p4), .val (.int p5), .val (.ref b491), .val ov512, .val (.ref b538), .val (.ref b561), .val (.int (2 : Int32)), .val (.ref b1232), .val (.ref b1239), .val (.ref b1246), .val ov1413, .val ov1426, .val (.ref b1441), .unset, .unset, .unset] [(.ref r_1518)]))
    refine sAw X1518 hx (hb hby at_278) (q := 280) rfl rfl (Ls' := #[.val (.int p0), .val (.int p1), .val (.int p2), .val (.int p3), .val (.int p4), .val (.int p5), .val (.ref b491), .val ov512, .val (.ref b538), .val (.ref b561), .val (.int (2 : Int32)), .val (.ref b1232), .val (.ref b1239), .val (.ref b1246), .val ov1413, .val ov1426, .val (.ref b1441), .val (.ref r_1518), .unset, .unset]) rfl ?_
    refine aLw X1518 hx (hb hby at_280) (q := 282) rfl rfl rfl ?_
    have f1521 : Old Z Z.heap.size T1518.heap := f1519.keep K1518q all0
    refine g_vi X1518 hx hZ0 hown0 (wd131 hw) (wd132 hw) (notFace_of_selects (args := #[]) (mvT hZ0 (wd134 hw))) (wd134 hw) (wd133 hw) (by decide) q1518_1 rfl (Con.back (W := 0) (rm_get_leftOut l Z a0 hw zC SC PC aE SE aD SD aM SM mO MO r_1518 q_1488 T1518.heap f1521 q1518_3) hZ0 (wd135 hw) (wd74 hw) (by decide) (by decide)) (by rw [hml]; rfl) (lenOf pd13 rfl) rfl (Nat.le_of_eq rfl) (hb hby at_282) (q := 285) rfl (by decide) (by decide) ?_
    intro v1520 T1520 L1520 X1520 Q1520
    obtain ⟨rfl, Nq1520, e1520⟩ := Q1520
    have N1520 := Fr.app N1518 Nq1520
    show Go _ _ _ _ (T1520.setTop (mkF m 285 #[.val (.int p0), .val (.int p1), .val (.int p2), .val (.int p3), .val (.int p4), .val (.int p5), .val (.ref b491), .val ov512, .val (.ref b538), .val (.ref b561), .val (.int (2 : Int32)), .val (.ref b1232), .val (.ref b1239), .val (.ref b1246), .val ov1413, .val ov1426, .val (.ref b1441), .val (.ref r_1518), .unset, .unset] [(.ref q_1488)]))
    refine sAw X1520 hx (hb hby at_285) (q := 287) rfl rfl (Ls' := #[.val (.int p0), .val (.int p1), .val (.int p2), .val (.int p3), .val (.int p4), .val (.int p5), .val (.ref b491), .val ov512, .val (.ref b538), .val (.ref b561), .val (.int (2 : Int32)), .val (.ref b1232), .val (.ref b1239), .val (.ref b1246), .val ov1413, .val ov1426, .val (.ref b1441), .val (.ref r_1518), .val (.ref q_1488), .unset]) rfl ?_
    refine aLw X1520 hx (hb hby at_287) (q := 289) rfl rfl rfl ?_
    have f1554 : Fld Z T1518.heap q_1488 "java/util/ImmutableCollections$List12" "e1" "Ljava/lang/Object;" (.ref b1239) := q1488_8.keep K1518q nin0
    have f1555 : Exa Z T1488.heap b1239 "com/example/quaymark/quaymark/Review$LeftOut" := f1516.keep K1488q
    have f1556 : Exa Z T1518.heap b1239 "com/example/quaymark/quaymark/Review$LeftOut" := f1555.keep K1518q
    have f1557 : Exa Z h491 aM "java/lang/Object" := PM1.ext E491
    have f1558 : Exa Z h492 aM "java/lang/Object" := f1557.ext E492
    have f1559 : Exa Z h493 aM "java/lang/Object" := f1558.wr W493
    have f1560 : Exa Z h496 aM "java/lang/Object" := f1559.wr W496
    have f1561 : Exa Z T497.heap aM "java/lang/Object" := f1560.keep K497q
    have f1562 : Exa Z h512 aM "java/lang/Object" := f1561.keep K512q
    have f1563 : Exa Z h538 aM "java/lang/Object" := f1562.ext E538
    have f1564 : Exa Z h539 aM "java/lang/Object" := f1563.ext E539
    have f1565 : Exa Z h540 aM "java/lang/Object" := f1564.wr W540
    have f1566 : Exa Z h545 aM "java/lang/Object" := f1565.wr W545
    have f1567 : Exa Z T546.heap aM "java/lang/Object" := f1566.keep K546q
    have f1568 : Exa Z h561 aM "java/lang/Object" := f1567.ext E561
    have f1569 : Exa Z h562 aM "java/lang/Object" := f1568.ext E562
    have f1570 : Exa Z h563 aM "java/lang/Object" := f1569.wr W563
    have f1571 : Exa Z T567.heap aM "java/lang/Object" := f1570.keep K567q
    have f1572 : Exa Z h1232 aM "java/lang/Object" := f1571.ext E1232
    have f1573 : Exa Z T1235.heap aM "java/lang/Object" := f1572.keep K1235q
    have f1574 : Exa Z h1239 aM "java/lang/Object" := f1573.ext E1239
    have f1575 : Exa Z T1242.heap aM "java/lang/Object" := f1574.keep K1242q
    have f1576 : Exa Z h1246 aM "java/lang/Object" := f1575.ext E1246
    have f1577 : Exa Z T1249.heap aM "java/lang/Object" := f1576.keep K1249q
    have f1578 : Exa Z T1327.heap aM "java/lang/Object" := f1577.keep K1327q
    have f1579 : Exa Z T1407.heap aM "java/lang/Object" := f1578.keep K1407q
    have f1580 : Exa Z h1413 aM "java/lang/Object" := f1579.keep K1413q
    have f1581 : Exa Z h1426 aM "java/lang/Object" := f1580.keep K1426q
    have f1582 : Exa Z h1441 aM "java/lang/Object" := f1581.ext E1441
    have f1583 : Exa Z T1488.heap aM "java/lang/Object" := f1582.keep K1488q
    have f1584 : Exa Z T1518.heap aM "java/lang/Object" := f1583.keep K1518q
    have f1585 : Exa Z T1518.heap q_1488 "java/util/ImmutableCollections$List12" := q1488_6.keep K1518q
    refine g_if X1520 hx hZ0 hown0 (wd136 hw) (wd137 hw) (wd138 hw) rfl (wd269 hw) (wd270 hw) (wd271 hw) (wd272 hw) (wd268 hw) (by decide) f1585 e1520 (Con.back (W := 0) (rm_size2 l Z a0 hw zC SC PC aE SE aD SD aM SM mO MO q_1488 b1239 T1518.heap f1521 f1554 f1556 f1584) hZ0 (wd273 hw) (wd241 hw) (by decide) (by decide)) (by rw [hml]; rfl) (lenOf pd19 rfl) rfl (Nat.le_of_eq rfl) (hb hby at_289) (q := 294) rfl (by decide) (by decide) ?_
    intro v1553 T1553 L1553 X1553 Q1553
    obtain ⟨rfl, Nq1553, e1553⟩ := Q1553
    have N1553 := Fr.app N1520 Nq1553
    show Go _ _ _ _ (T1553.setTop (mkF m 294 #[.val (.int p0), .val (.int p1), .val (.int p2), .val (.int p3), .val (.int p4), .val (.int p5), .val (.ref b491), .val ov512, .val (.ref b538), .val (.ref b561), .val (.int (2 : Int32)), .val (.ref b1232), .val (.ref b1239), .val (.ref b1246), .val ov1413, .val ov1426, .val (.ref b1441), .val (.ref r_1518), .val (.ref q_1488), .unset] [(.int (2 : Int32))]))
    refine iLw X1553 hx (hb hby at_294) (q := 296) rfl rfl ?_
    refine icN X1553 hx (hb hby at_296) (q := 299) rfl (by decide) ?_
    refine iLw X1553 hx (hb hby at_299) (q := 301) rfl rfl ?_
    refine cI X1553 hx (hb hby at_301) (q := 302) rfl (z := (1 : Int32)) rfl ?_
    refine icN X1553 hx (hb hby at_302) (q := 305) rfl (by decide) ?_
    refine aLw X1553 hx (hb hby at_305) (q := 307) rfl rfl rfl ?_
    refine cI X1553 hx (hb hby at_307) (q := 308) rfl (z := (0 : Int32)) rfl ?_
    have f1588 : Fld Z T1518.heap q_1488 "java/util/ImmutableCollections$List12" "e0" "Ljava/lang/Object;" (.ref b1232) := q1488_7.keep K1518q nin0
    refine g_if X1553 hx hZ0 hown0 (wd275 hw) (wd276 hw) (wd277 hw) rfl (wd278 hw) (wd279 hw) (wd280 hw) (wd281 hw) (wd268 hw) (by decide) f1585 e1553 (Con.back (W := 0) (rm_get0 l Z a0 hw zC SC PC aE SE aD SD aM SM mO MO q_1488 b1232 T1518.heap f1521 f1588) hZ0 (wd282 hw) (wd241 hw) (by decide) (by decide)) (by rw [hml]; rfl) (lenOf pd23 rfl) rfl (Nat.le_of_eq rfl) (hb hby at_308) (q := 313) rfl (by decide) (by decide) ?_
    intro v1587 T1587 L1587 X1587 Q1587
    obtain ⟨rfl, Nq1587, e1587⟩ := Q1587
    have N1587 := Fr.app N1553 Nq1587
    show Go _ _ _ _ (T1587.setTop (mkF m 313 #[.val (.int p0), .val (.int p1), .val (.int p2), .val (.int p3), .val (.int p4), .val (.int p5), .val (.ref b491), .val ov512, .val (.ref b538), .val (.ref b561), .val (.int (2 : Int32)), .val (.ref b1232), .val (.ref b1239), .val (.ref b1246), .val ov1413, .val ov1426, .val (.ref b1441), .val (.ref r_1518), .val (.ref q_1488), .unset] [(.ref b1232)]))
    refine aLw X1587 hx (hb hby at_313) (q := 315) rfl rfl rfl ?_
    refine g_acmp X1587 hx (hb hby at_315) (q := 318) rfl rfl (same := true) (decide_eq_true rfl) (by decide) (by decide) ?_
    refine iLw X1587 hx (hb hby at_318) (q := 320) rfl rfl ?_
    refine cI X1587 hx (hb hby at_320) (q := 321) rfl (z := (2 : Int32)) rfl ?_
    refine icN X1587 hx (hb hby at_321) (q := 324) rfl (by decide) ?_
    refine aLw X1587 hx (hb hby at_324) (q := 326) rfl rfl rfl ?_
    refine cI X1587 hx (hb hby at_326) (q := 327) rfl (z := (1 : Int32)) rfl ?_
    refine g_if X1587 hx hZ0 hown0 (wd275 hw) (wd276 hw) (wd277 hw) rfl (wd278 hw) (wd279 hw) (wd280 hw) (wd281 hw) (wd268 hw) (by decide) f1585 e1587 (Con.back (W := 0) (rm_get1 l Z a0 hw zC SC PC aE SE aD SD aM SM mO MO q_1488 b1239 T1518.heap f1521 f1554 f1556 f1584) hZ0 (wd282 hw) (wd241 hw) (by decide) (by decide)) (by rw [hml]; rfl) (lenOf pd23 rfl) rfl (Nat.le_of_eq rfl) (hb hby at_327) (q := 332) rfl (by decide) (by decide) ?_
    intro v1589 T1589 L1589 X1589 Q1589
    obtain ⟨rfl, Nq1589, e1589⟩ := Q1589
    have N1589 := Fr.app N1587 Nq1589
    show Go _ _ _ _ (T1589.setTop (mkF m 332 #[.val (.int p0), .val (.int p1), .val (.int p2), .val (.int p3), .val (.int p4), .val (.int p5), .val (.ref b491), .val ov512, .val (.ref b538), .val (.ref b561), .val (.int (2 : Int32)), .val (.ref b1232), .val (.ref b1239), .val (.ref b1246), .val ov1413, .val ov1426, .val (.ref b1441), .val (.ref r_1518), .val (.ref q_1488), .unset] [(.ref b1239)]))
    refine aLw X1589 hx (hb hby at_332) (q := 334) rfl rfl rfl ?_
    refine g_acmp X1589 hx (hb hby at_334) (q := 337) rfl rfl (same := true) (decide_eq_true rfl) (by decide) (by decide) ?_
    refine cI X1589 hx (hb hby at_337) (q := 338) rfl (z := (1 : Int32)) rfl ?_
    refine g_goto X1589 hx (hb hby at_338) (q := 342) (by decide) (by decide) ?_
    refine sIw X1589 hx (hb hby at_342) (q := 344) rfl (Ls' := #[.val (.int p0), .val (.int p1), .val (.int p2), .val (.int p3), .val (.int p4), .val (.int p5), .val (.ref b491), .val ov512, .val (.ref b538), .val (.ref b561), .val (.int (2 : Int32)), .val (.ref b1232), .val (.ref b1239), .val (.ref b1246), .val ov1413, .val ov1426, .val (.ref b1441), .val (.ref r_1518), .val (.ref q_1488), .val (.int (1 : Int32))]) rfl ?_
    refine aLw X1589 hx (hb hby at_344) (q := 346) rfl rfl rfl ?_
    refine g_vi X1589 hx hZ0 hown0 (wd147 hw) (wd148 hw) (notFace_of_selects (args := #[]) (mvT hZ0 (wd150 hw))) (wd150 hw) (wd149 hw) (by decide) q1518_1 e1589 (Con.back (W := 0) (rm_get_submittedBy l Z a0 hw zC SC PC aE SE aD SD aM SM mO MO r_1518 b491 T1518.heap f1521 q1518_2) hZ0 (wd151 hw) (wd74 hw) (by decide) (by decide)) (by rw [hml]; rfl) (lenOf pd20 rfl) rfl (Nat.le_of_eq rfl) (hb hby at_346) (q := 349) rfl (by decide) (by decide) ?_
    intro v1590 T1590 L1590 X1590 Q1590
    obtain ⟨rfl, Nq1590, e1590⟩ := Q1590
    have N1590 := Fr.app N1589 Nq1590
    show Go _ _ _ _ (T1590.setTop (mkF m 349 #[.val (.int p0), .val (.int p1), .val (.int p2), .val (.int p3), .val (.int p4), .val (.int p5), .val (.ref b491), .val ov512, .val (.ref b538), .val (.ref b561), .val (.int (2 : Int32)), .val (.ref b1232), .val (.ref b1239), .val (.ref b1246), .val ov1413, .val ov1426, .val (.ref b1441), .val (.ref r_1518), .val (.ref q_1488), .val (.int (1 : Int32))] [(.ref b491)]))
    refine aLw X1590 hx (hb hby at_349) (q := 351) rfl rfl rfl ?_
    refine g_acmp X1590 hx (hb hby at_351) (q := 354) rfl rfl (same := true) (decide_eq_true rfl) (by decide) (by decide) ?_
    refine iLw X1590 hx (hb hby at_354) (q := 356) rfl rfl ?_
    refine ifN X1590 hx (hb hby at_356) (q := 359) rfl (by decide) ?_
    refine aLw X1590 hx (hb hby at_359) (q := 361) rfl rfl rfl ?_
    refine g_vi X1590 hx hZ0 hown0 (wd152 hw) (wd153 hw) (notFace_of_selects (args := #[]) (mvT hZ0 (wd155 hw))) (wd155 hw) (wd154 hw) (by decide) q1518_1 e1590 (Con.back (W := 0) (rm_get_signedOffBy l Z a0 hw zC SC PC aE SE aD SD aM SM mO MO r_1518 T1518.heap f1521 q1518_4) hZ0 (wd156 hw) (wd74 hw) (by decide) (by decide)) (by rw [hml]; rfl) (lenOf pd20 rfl) rfl (Nat.le_of_eq rfl) (hb hby at_361) (q := 364) rfl (by decide) (by decide) ?_
    intro v1591 T1591 L1591 X1591 Q1591
    obtain ⟨rfl, Nq1591, e1591⟩ := Q1591
    have N1591 := Fr.app N1590 Nq1591
    show Go _ _ _ _ (T1591.setTop (mkF m 364 #[.val (.int p0), .val (.int p1), .val (.int p2), .val (.int p3), .val (.int p4), .val (.int p5), .val (.ref b491), .val ov512, .val (.ref b538), .val (.ref b561), .val (.int (2 : Int32)), .val (.ref b1232), .val (.ref b1239), .val (.ref b1246), .val ov1413, .val ov1426, .val (.ref b1441), .val (.ref r_1518), .val (.ref q_1488), .val (.int (1 : Int32))] [.null]))
    refine nnN X1591 hx (hb hby at_364) (q := 367) rfl ?_
    refine aLw X1591 hx (hb hby at_367) (q := 369) rfl rfl rfl ?_
    refine g_vi X1591 hx hZ0 hown0 (wd157 hw) (wd158 hw) (notFace_of_selects (args := #[]) (mvT hZ0 (wd160 hw))) (wd160 hw) (wd159 hw) (by decide) q1518_1 e1591 (Con.back (W := 0) (rm_get_withdrawn l Z a0 hw zC SC PC aE SE aD SD aM SM mO MO r_1518 ov1426 T1518.heap f1521 q1518_5 r1426) hZ0 (wd161 hw) (wd74 hw) (by decide) (by decide)) (by rw [hml]; rfl) (lenOf pd21 rfl) rfl (Nat.le_of_eq rfl) (hb hby at_369) (q := 372) rfl (by decide) (by decide) ?_
    intro v1592 T1592 L1592 X1592 Q1592
    obtain ⟨rfl, Nq1592, e1592⟩ := Q1592
    have N1592 := Fr.app N1591 Nq1592
    show Go _ _ _ _ (T1592.setTop (mkF m 372 #[.val (.int p0), .val (.int p1), .val (.int p2), .val (.int p3), .val (.int p4), .val (.int p5), .val (.ref b491), .val ov512, .val (.ref b538), .val (.ref b561), .val (.int (2 : Int32)), .val (.ref b1232), .val (.ref b1239), .val (.ref b1246), .val ov1413, .val ov1426, .val (.ref b1441), .val (.ref r_1518), .val (.ref q_1488), .val (.int (1 : Int32))] [ov1426]))
    refine aLw X1592 hx (hb hby at_372) (q := 374) rfl rfl r1426 ?_
    refine g_acmp X1592 hx (hb hby at_374) (q := 377) r1426 r1426 (same := true) (decide_eq_true rfl) (by decide) (by decide) ?_
    refine cI X1592 hx (hb hby at_377) (q := 378) rfl (z := (1 : Int32)) rfl ?_
    refine g_goto X1592 hx (hb hby at_378) (q := 382) (by decide) (by decide) ?_
    refine endP X1592 hlk (fun h => by rw [hret] at h; cases h) (lastN X1592 hx (t := .boolean) (z' := (1 : Int32)) hret (by simp) (by decide) (hb hby at_382)) ?_ (by decide) (by decide)
    rw [e1592]
    exact ⟨rfl, N1592, trivial⟩
theorem own_len0 {s : State} {args : Array Value} {t : Term} {a : Addr} {c : Cell} {ty : FieldType} (hf : Fit s) (ev : t.eval args s none [] s = some (.ref a)) (A : Arr s s.heap a c ty) (h : (Jvm.Cond.eq (Term.length t) (Term.int (0 : Int32))).value args s none s [] = some true) : Arv s s.heap a c.cls ty (0 : Int32) [] .null := by
  have hA := A.fin (Vm.Alike.refl _)
  obtain ⟨xv, yv, e1, e2, -, -⟩ := cmp_v (Or.inl h)
  have hlt : c.slots.size < 2 ^ 31 := by
    by_cases hq : c.slots.size < 2 ^ 31
    · exact hq
    · simp [Term.eval, ev, hA, hq] at e1
  have e3 := len_f ev hA hlt
  have h0 := gotT (Cond.eq_ints e3 (Term.int_eval (0))) h
  exact Arv.start hf A hlt h0 (by decide) (by decide) trivial
theorem own_fld0 {s : State} {args : Array Value} {t : Term} {a : Addr} {C n d : String} {k : Int32} (ev : t.eval args s none [] s = some (.ref a)) (h : (Jvm.Cond.eq (Term.field t C n d) (Term.int k)).value args s none s [] = some true) : Fld s s.heap a C n d (.int k) := by
  obtain ⟨xv, yv, e1, e2, k1, k2⟩ := cmp_v (Or.inl h)
  cases (Term.int_eval k).symm.trans e2
  obtain ⟨z, rfl⟩ := k2
  have h0 := gotT (Cond.eq_ints e1 (Term.int_eval k)) h
  subst h0
  exact Fld.start ((fld_at ev).symm.trans e1)
theorem own_sta {s : State} {args : Array Value} {C n d : String} {k : Int32} (h : (Jvm.Cond.eq (Term.static C n d) (Term.int k)).before args s = true) (w : (Jvm.Cond.initializedFor C n d).before args s = true) : Sta s s.heap C n d (.int k) := by
  have h := Cond.before_iff.mp h
  obtain ⟨xv, yv, e1, e2, k1, k2⟩ := cmp_v (Or.inl h)
  cases (Term.int_eval k).symm.trans e2
  obtain ⟨z, rfl⟩ := k2
  have h0 := gotT (Cond.eq_ints e1 (Term.int_eval k)) h
  subst h0
  exact Sta.start e1 (Or.inl w)
theorem comes_1 {Post : Tables → Env → Array Value → State → Outcome → State → Prop} (hpost : ∀ tb e args s v u, (limb_1_1.after args s (.returned v) u = true ∧ limb_1_2.after args s (.returned v) u = true) → FrameEnd s (.returned v) u (Jvm.fieldLocs frame_1_writes args s ++ Jvm.arrayLocs frame_1_arrays args s ++ Jvm.staticLocs frame_1_statics s) 56 192 → Post tb e args s (.returned v) u) :
    ArmFor flags0 classFile x code maxLocals ret World_1 tables_1 room_1 Calls_1 rest_1 Pre_1 Post := by
  intro l hfl _ _ p e ha hc hk s m args below hf hA hF happ hP
  obtain ⟨hcalls, hrest, hpre⟩ := hP
  obtain ⟨-, -, -, hnamed, -, -, -, hat⟩ := (Spec.applies_iff hf).mp happ
  obtain ⟨hg, hn⟩ := and_e (Cond.before_iff.mp (show (Jvm.Cond.and given_1 narrow_1).before args s = true from hpre))
  obtain ⟨g0, r0⟩ := and_e hg
  obtain ⟨i0, r1⟩ := and_e r0
  obtain ⟨i1, r2⟩ := and_e r1
  obtain ⟨i2, r3⟩ := and_e r2
  obtain ⟨i3, r4⟩ := and_e r3
  obtain ⟨i4, r5⟩ := and_e r4
  obtain ⟨w0, w1, w2, w3, w4, w5, rfl⟩ : ∃ w0 w1 w2 w3 w4 w5 : Value, args = #[w0, w1, w2, w3, w4, w5] := by
    have hs : args.size = 6 := by simpa [Cond.value, given_1] using g0
    obtain ⟨L⟩ := args
    match L, hs with
    | [w0, w1, w2, w3, w4, w5], _ => exact ⟨w0, w1, w2, w3, w4, w5, rfl⟩
  have hw := fun d (hd : d ∈ tables_1) => atoms_spec (ws := Jvm.Cond.code x code maxLocals ret :: tables_1) hat d (List.mem_cons_of_mem _ hd)
  obtain ⟨hsets, hown0⟩ := atoms_of _ (rest_1_c_eq ▸ (show rest_1_c.before _ s = true from hrest))
  have hfit : Fit s := fun {y c} hc i hi => by
    obtain ⟨ha, rfl⟩ := Array.getElem?_eq_some_iff.mp hc
    have q := List.all_eq_true.mp ((Array.all_eq_true_iff_forall_mem.mp hF) _ (Array.getElem_mem ha)) i (List.mem_range.mpr hi)
    simpa [Array.getElem?_eq_getElem hi] using q
  obtain ⟨z0, q0⟩ := is_v i0
  obtain rfl : w0 = (.int z0) := Option.some.inj q0
  obtain ⟨z1, q1⟩ := is_v i1
  obtain rfl : w1 = (.int z1) := Option.some.inj q1
  obtain ⟨z2, q2⟩ := is_v i2
  obtain rfl : w2 = (.int z2) := Option.some.inj q2
  obtain ⟨z3, q3⟩ := is_v i3
  obtain rfl : w3 = (.int z3) := Option.some.inj q3
  obtain ⟨z4, q4⟩ := is_v i4
  obtain rfl : w4 = (.int z4) := Option.some.inj q4
  obtain ⟨z5, q5⟩ := is_v r5
  obtain rfl : w5 = (.int z5) := Option.some.inj q5
  have n5 := not_v (Cond.before_iff.mp (hsets _ (List.mem_of_getElem? (i := 2) rfl)))
  obtain ⟨zC, ezC⟩ := is_v (Cond.before_iff.mp (hsets _ (List.mem_of_getElem? (i := 1) rfl)))
  have SC : Sta s s.heap "java/lang/String" "COMPACT_STRINGS" "Z" (.int zC) := Sta.start ezC (Or.inl (hsets _ (List.mem_of_getElem? (i := 0) rfl)))
  have PC : ¬ (zC = (0 : Int32)) := gotF (Cond.eq_ints ezC (Term.int_eval (0))) n5
  have x11 := Cond.before_iff.mp (hsets _ (List.mem_of_getElem? (i := 20) rfl))
  obtain ⟨aE, eE⟩ := exa_v x11
  have SE : Sta s s.heap "java/util/ImmutableCollections" "EMPTY_LIST" "Ljava/util/ImmutableCollections$ListN;" (.ref aE) := Sta.start eE (Or.inl (hsets _ (List.mem_of_getElem? (i := 19) rfl)))
  have PE1 := Exa.start eE x11
  have x12 := Cond.before_iff.mp (hsets _ (List.mem_of_getElem? (i := 21) rfl))
  obtain ⟨eA, eeA⟩ := arr_v x12
  have PE2 := Fld.start ((fld_at eE).symm.trans eeA)
  obtain ⟨eC, arE⟩ := Arr.start eeA x12
  have PE3 := own_len0 hfit eeA arE (Cond.before_iff.mp (hsets _ (List.mem_of_getElem? (i := 23) rfl)))
  have PE4 := own_fld0 eE (Cond.before_iff.mp (hsets _ (List.mem_of_getElem? (i := 24) rfl)))
  have y16 := Cond.before_iff.mp (hsets _ (List.mem_of_getElem? (i := 16) rfl))
  obtain ⟨aD, eD⟩ := exa_v y16
  have SD : Sta s s.heap "java/util/ArrayList" "DEFAULTCAPACITY_EMPTY_ELEMENTDATA" "[Ljava/lang/Object;" (.ref aD) := Sta.start eD (Or.inr ⟨(wd50 hw), (hsets _ (List.mem_of_getElem? (i := 11) rfl))⟩)
  have PD1 := Exa.start eD y16
  have y15 := Cond.before_iff.mp (hsets _ (List.mem_of_getElem? (i := 15) rfl))
  obtain ⟨dC, arD⟩ := Arr.start eD y15
  have PD2 := own_len0 hfit eD arD (Cond.before_iff.mp (hsets _ (List.mem_of_getElem? (i := 17) rfl)))
  have x27 := Cond.before_iff.mp (hsets _ (List.mem_of_getElem? (i := 27) rfl))
  obtain ⟨aM, eM⟩ := exa_v x27
  have SM : Sta s s.heap "java/util/ImmutableCollections" "EMPTY" "Ljava/lang/Object;" (.ref aM) := Sta.start eM (Or.inl (hsets _ (List.mem_of_getElem? (i := 26) rfl)))
  have PM1 := Exa.start eM x27
  obtain ⟨mcc, mkk, mO, mq1, mq2, mq3, mq4⟩ := hcalls.1
  have MO : Mir s "[Ljava/lang/Object;" mO := ⟨mcc, mkk, mq1, mq2, mq3, mq4⟩
  obtain ⟨n, o, h1, h2, h3, _, L, rfl, hq1, hq⟩ := rm_law l s _ hw zC SC PC aE SE aD SD aM SM mO MO z0 z1 z2 z3 z4 z5 eA eC.cls [] dC.cls [] s.heap (Old.start s) PE1 PE2 PE3 PE4 PD1 PD2 PM1 tables_1 p e ha hc hk s m _ below hf ((Spec.applies_iff_loose hf).mp happ).1 ⟨rfl, State.Warmed39.refl s, rfl⟩ trivial
  obtain ⟨rfl, N, -⟩ := hq1
  exact ⟨n, _, h1, h2, h3, hpost _ _ _ _ _ _ ⟨Cond.after_iff.mpr rfl, Cond.after_iff.mpr (eq_i res_at (Term.int_eval (1)) rfl)⟩ ⟨hq.1, hq.2.1, hq.2.2.sift fun y hy => Or.inr (N y hy)⟩⟩
theorem main_1_1 : Claimed_1_1 := comes_1 fun _ _ _ _ _ _ h hF => ⟨h.1, hF⟩
theorem main_1_2 : Claimed_1_2 := comes_1 fun _ _ _ _ _ _ h hF => ⟨h.2, hF⟩
end Jvm.Pilot.@@N@@
namespace Jvm.Pilot.@@N@@
open Jvm Jvm.ClassFile Sem Op Lib Jvm.Free Jvm.Stand Jvm.Pilot.@@N@@.Jvm.D
/-! MADE BY PROGRAM (witnessworld.py) out of the Statement's table words and the real class files: 42 classes; the members and pool entries that the words name. The judged class is class 1, her method 1. -/
namespace start1
open Jvm.ClassFile
def u (s : String) : CpInfo := .utf8 (stringToUtf16 s)
/-- a pool by its gaps: so many unusable entries, then the entry; so many at the end -/
def gap : Nat → List CpInfo → List CpInfo
  | 0, r => r
  | n + 1, r => .unusable :: gap n r
def poolList (es : List (Nat × CpInfo)) (last : Nat) : List CpInfo := es.foldr (fun e r => gap e.1 (e.2 :: r)) (gap last [])
def pool (es : List (Nat × CpInfo)) (last : Nat) : Array CpInfo := ⟨poolList es last⟩
def fileOf (pool : Array CpInfo) (this : Nat) (attrs : Array Attribute := #[]) (ms : Array MethodInfo := #[]) (fl : Nat := 33) (sup : Nat := 0) (ifs : Array Nat := #[]) (fds : Array FieldInfo := #[]) : ClassFile where
  minorVersion := 0
  majorVersion := 65
  constantPool := pool
  accessFlags := fl
  thisClass := this
  superClass := sup
  interfaces := ifs
  fields := fds
  methods := ms
  attributes := attrs
def plain (name : String) (sup : Option ClassId) : Class where
  name := name
  kind := .ordinary
  loader := none
  accessFlags := 33
  super := sup
  interfaces := #[]
  cf := none
  fields := #[]
  methods := #[]
  instanceTypes := #[]
  staticTypes := #[]
  resolved := #[]
  callSites := []
  init := .initialized
  statics := none
  mirror := none

def pool0 : Array CpInfo := pool [(5, u "<init>"), (0, u "()V"), (1, .class_ 10), (1, u "java/lang/Object"), (0, u "getClass"), (0, u "()Ljava/lang/Class;")] 111

def k0c0 : Code := { maxStack := 0, maxLocals := 1, code := object_method_1_code, exceptionTable := #[], attributes := #[] }
def k0m0 : Method := { name := "<init>", desc := "()V", sig := { parameters := [], returnType := none }, accessFlags := 1, code := some k0c0 }
def k0m1 : Method := { name := "getClass", desc := "()Ljava/lang/Class;", sig := { parameters := [], returnType := some (.object "java/lang/Class") }, accessFlags := 273, code := none }
/-- java/lang/Object -/
def k0 : Class := { plain "java/lang/Object" none with
  accessFlags := 33
  interfaces := #[]
  cf := some (fileOf pool0 8 #[] #[{ accessFlags := 1, nameIndex := 5, descriptorIndex := 6, attributes := #[] }, { accessFlags := 273, nameIndex := 11, descriptorIndex := 12, attributes := #[] }] 33 0 #[] #[])
  fields := #[]
  methods := #[k0m0, k0m1]
  instanceTypes := #[]
  staticTypes := #[]
  resolved := Array.replicate 124 none
  statics := none }

def pool1 : Array CpInfo := pool [(2, .class_ 4), (0, .nameAndType 5 6), (0, u "java/lang/Object"), (0, u "<init>"), (0, u "()V"), (0, .class_ 8), (0, u "java/lang/String"), (0, .methodref 7 10), (0, .nameAndType 5 11), (0, u "([C)V"), (0, .class_ 13), (0, u "com/example/quaymark/quaymark/Review$LeftOut"), (0, .methodref 12 15), (0, .nameAndType 5 16), (0, u "(ILjava/lang/String;Ljava/lang/String;)V"), (0, .class_ 18), (0, u "java/util/ArrayList"), (0, .methodref 17 3), (0, .interfaceMethodref 21 22), (0, .class_ 23), (0, .nameAndType 24 25), (0, u "java/util/List"), (0, u "add"), (0, u "(Ljava/lang/Object;)Z"), (0, .class_ 27), (0, u "com/example/quaymark/quaymark/Review$Withdrawal"), (0, .methodref 26 29), (0, .nameAndType 5 30), (0, u "(Ljava/lang/String;Ljava/lang/String;)V"), (0, .class_ 32), (0, u "com/example/quaymark/quaymark/Review"), (0, .methodref 31 34), (0, .nameAndType 5 35), (0, u "(Ljava/lang/String;Ljava/util/List;Ljava/lang/String;Lcom/example/quaymark/quaymark/Review$Withdrawal;)V"), (0, .methodref 31 37), (0, .nameAndType 38 39), (0, u "withdrawing"), (0, u "(Lcom/example/quaymark/quaymark/Review$Withdrawal;)Lcom/example/quaymark/quaymark/Review;"), (0, .methodref 31 41), (0, .nameAndType 42 43), (0, u "leftOut"), (0, u "()Ljava/util/List;"), (0, .interfaceMethodref 21 45), (0, .nameAndType 46 47), (0, u "size"), (0, u "()I"), (0, .interfaceMethodref 21 49), (0, .nameAndType 50 51), (0, u "get"), (0, u "(I)Ljava/lang/Object;"), (0, .methodref 31 53), (0, .nameAndType 54 55), (0, u "submittedBy"), (0, u "()Ljava/lang/String;"), (0, .methodref 31 57), (0, .nameAndType 58 55), (0, u "signedOffBy"), (0, .methodref 31 60), (0, .nameAndType 61 62), (0, u "withdrawn"), (0, u "()Lcom/example/quaymark/quaymark/Review$Withdrawal;"), (0, .class_ 64), (0, u "com/example/quaymark/quaymark/ReviewWithdrawingPinLaw"), (2, u "law"), (0, u "(IIIIII)Z")] 6

def k1m0 : Method := { name := "<init>", desc := "()V", sig := { parameters := [], returnType := none }, accessFlags := 1, code := none }
def k1c1 : Code := { maxStack := 7, maxLocals := 20, code := code, exceptionTable := #[], attributes := #[] }
def k1m1 : Method := { name := "law", desc := "(IIIIII)Z", sig := { parameters := [.int, .int, .int, .int, .int, .int], returnType := some .boolean }, accessFlags := 9, code := some k1c1 }
/-- com/example/quaymark/quaymark/ReviewWithdrawingPinLaw -/
def k1 : Class := { plain "com/example/quaymark/quaymark/ReviewWithdrawingPinLaw" (some 0) with
  accessFlags := 49
  interfaces := #[]
  cf := some (fileOf pool1 63 #[] #[{ accessFlags := 1, nameIndex := 5, descriptorIndex := 6, attributes := #[] }, { accessFlags := 9, nameIndex := 67, descriptorIndex := 68, attributes := #[] }] 49 2 #[] #[])
  fields := #[]
  methods := #[k1m0, k1m1]
  instanceTypes := #[]
  staticTypes := #[]
  resolved := Array.replicate 75 none
  statics := none }

def pool2 : Array CpInfo := pool [(1, .class_ 2), (0, u "java/io/Serializable"), (0, .class_ 4), (0, u "java/lang/Object")] 2

/-- java/io/Serializable -/
def k2 : Class := { plain "java/io/Serializable" (some 0) with
  accessFlags := 1537
  interfaces := #[]
  cf := some (fileOf pool2 1 #[] #[] 1537 3 #[] #[])
  fields := #[]
  methods := #[]
  instanceTypes := #[]
  staticTypes := #[]
  resolved := Array.replicate 7 none
  statics := none }

def pool3 : Array CpInfo := pool [(1, .class_ 2), (0, u "java/lang/Comparable"), (0, .class_ 4), (0, u "java/lang/Object")] 7

/-- java/lang/Comparable -/
def k3 : Class := { plain "java/lang/Comparable" (some 0) with
  accessFlags := 1537
  interfaces := #[]
  cf := some (fileOf pool3 1 #[] #[] 1537 3 #[] #[])
  fields := #[]
  methods := #[]
  instanceTypes := #[]
  staticTypes := #[]
  resolved := Array.replicate 12 none
  statics := none }

def pool4 : Array CpInfo := pool [(2, .class_ 4), (1, u "java/lang/CharSequence"), (42, .class_ 48), (0, u "java/lang/CharSequence$1CodePointIterator"), (10, .class_ 60), (0, u "java/lang/CharSequence$1CharIterator"), (5, .class_ 67), (0, u "java/lang/Object")] 63

/-- java/lang/CharSequence -/
def k4 : Class := { plain "java/lang/CharSequence" (some 0) with
  accessFlags := 1537
  interfaces := #[]
  cf := some (fileOf pool4 2 #[.nestMembers #[47, 59]] #[] 1537 66 #[] #[])
  fields := #[]
  methods := #[]
  instanceTypes := #[]
  staticTypes := #[]
  resolved := Array.replicate 131 none
  statics := none }

def pool5 : Array CpInfo := pool [(1, .class_ 2), (0, u "java/lang/constant/Constable"), (0, .class_ 4), (0, u "java/lang/Object")] 6

/-- java/lang/constant/Constable -/
def k5 : Class := { plain "java/lang/constant/Constable" (some 0) with
  accessFlags := 1537
  interfaces := #[]
  cf := some (fileOf pool5 1 #[] #[] 1537 3 #[] #[])
  fields := #[]
  methods := #[]
  instanceTypes := #[]
  staticTypes := #[]
  resolved := Array.replicate 11 none
  statics := none }

def pool6 : Array CpInfo := pool [(1, .class_ 2), (0, u "java/lang/constant/ConstantDesc"), (0, .class_ 4), (0, u "java/lang/Object")] 32

/-- java/lang/constant/ConstantDesc -/
def k6 : Class := { plain "java/lang/constant/ConstantDesc" (some 0) with
  accessFlags := 1537
  interfaces := #[]
  cf := some (fileOf pool6 1 #[] #[] 1537 3 #[] #[])
  fields := #[]
  methods := #[]
  instanceTypes := #[]
  staticTypes := #[]
  resolved := Array.replicate 37 none
  statics := none }

def pool7 : Array CpInfo := pool [(1, .methodref 2 3), (0, .class_ 4), (0, .nameAndType 5 6), (0, u "java/lang/Object"), (0, u "<init>"), (0, u "()V"), (2, .fieldref 10 11), (0, .class_ 12), (0, .nameAndType 13 14), (0, u "java/lang/String"), (0, u "value"), (0, u "[B"), (0, .fieldref 10 16), (0, .nameAndType 17 18), (0, u "coder"), (0, u "B"), (2, u "hash"), (0, u "I"), (2, u "hashIsZero"), (0, u "Z"), (0, .methodref 10 28), (0, .nameAndType 5 29), (0, u "([CIILjava/lang/Void;)V"), (8, .fieldref 10 39), (0, .nameAndType 40 26), (0, u "COMPACT_STRINGS"), (1, .class_ 44), (1, u "java/lang/StringUTF16"), (0, u "compress"), (1, .methodref 42 48), (0, .nameAndType 49 50), (0, u "coderFromArrayLen"), (0, u "([BI)B"), (126, .methodref 42 178), (0, .nameAndType 45 179), (0, u "([CII)[B"), (395, .class_ 576), (0, u "java/lang/CharSequence"), (22, u "CASE_INSENSITIVE_ORDER"), (0, u "Ljava/util/Comparator;"), (409, u "([C)V"), (90, u "serialPersistentFields"), (0, u "[Ljava/io/ObjectStreamField;"), (0, .class_ 1104), (0, u "java/lang/String$CaseInsensitiveComparator"), (1, .class_ 1107), (0, u "java/io/Serializable"), (0, .class_ 1109), (0, u "java/lang/Comparable"), (0, .class_ 1111), (0, u "java/lang/constant/Constable"), (0, .class_ 1113), (0, u "java/lang/constant/ConstantDesc"), (2, u "serialVersionUID"), (0, u "J"), (3, u "REPL"), (0, u "C"), (2, u "LATIN1"), (1, u "UTF16")] 323

def k7m0 : Method := { name := "<init>", desc := "()V", sig := { parameters := [], returnType := none }, accessFlags := 1, code := none }
def k7c1 : Code := { maxStack := 5, maxLocals := 2, code := jdk_42_method_3_code, exceptionTable := #[], attributes := #[] }
def k7m1 : Method := { name := "<init>", desc := "([C)V", sig := { parameters := [(.array .char)], returnType := none }, accessFlags := 1, code := some k7c1 }
def k7c2 : Code := { maxStack := 4, maxLocals := 6, code := jdk_42_method_149_code, exceptionTable := #[], attributes := #[] }
def k7m2 : Method := { name := "<init>", desc := "([CIILjava/lang/Void;)V", sig := { parameters := [(.array .char), .int, .int, (.object "java/lang/Void")], returnType := none }, accessFlags := 2, code := some k7c2 }
/-- java/lang/String -/
def k7 : Class := { plain "java/lang/String" (some 0) with
  accessFlags := 49
  interfaces := #[2, 3, 4, 5, 6]
  cf := some (fileOf pool7 10 #[.nestMembers #[1103]] #[{ accessFlags := 1, nameIndex := 5, descriptorIndex := 6, attributes := #[] }, { accessFlags := 1, nameIndex := 5, descriptorIndex := 1010, attributes := #[] }, { accessFlags := 2, nameIndex := 5, descriptorIndex := 29, attributes := #[] }] 49 2 #[1106, 1108, 575, 1110, 1112] #[{ accessFlags := 18, nameIndex := 13, descriptorIndex := 14, attributes := #[] }, { accessFlags := 18, nameIndex := 17, descriptorIndex := 18, attributes := #[] }, { accessFlags := 2, nameIndex := 21, descriptorIndex := 22, attributes := #[] }, { accessFlags := 2, nameIndex := 25, descriptorIndex := 26, attributes := #[] }, { accessFlags := 26, nameIndex := 1116, descriptorIndex := 1117, attributes := #[] }, { accessFlags := 24, nameIndex := 40, descriptorIndex := 26, attributes := #[] }, { accessFlags := 26, nameIndex := 1101, descriptorIndex := 1102, attributes := #[] }, { accessFlags := 26, nameIndex := 1121, descriptorIndex := 1122, attributes := #[] }, { accessFlags := 25, nameIndex := 599, descriptorIndex := 600, attributes := #[] }, { accessFlags := 24, nameIndex := 1125, descriptorIndex := 18, attributes := #[] }, { accessFlags := 24, nameIndex := 1127, descriptorIndex := 18, attributes := #[] }])
  fields := #[{ name := "value", type := (.array .byte), accessFlags := 18, slot := 0, constantValue := 0 }, { name := "coder", type := .byte, accessFlags := 18, slot := 1, constantValue := 0 }, { name := "hash", type := .int, accessFlags := 2, slot := 2, constantValue := 0 }, { name := "hashIsZero", type := .boolean, accessFlags := 2, slot := 3, constantValue := 0 }, { name := "serialVersionUID", type := .long, accessFlags := 26, slot := 0, constantValue := 0 }, { name := "COMPACT_STRINGS", type := .boolean, accessFlags := 24, slot := 1, constantValue := 0 }, { name := "serialPersistentFields", type := (.array (.object "java/io/ObjectStreamField")), accessFlags := 26, slot := 2, constantValue := 0 }, { name := "REPL", type := .char, accessFlags := 26, slot := 3, constantValue := 0 }, { name := "CASE_INSENSITIVE_ORDER", type := (.object "java/util/Comparator"), accessFlags := 25, slot := 4, constantValue := 0 }, { name := "LATIN1", type := .byte, accessFlags := 24, slot := 5, constantValue := 0 }, { name := "UTF16", type := .byte, accessFlags := 24, slot := 6, constantValue := 0 }]
  methods := #[k7m0, k7m1, k7m2]
  instanceTypes := #[(.array .byte), .byte, .int, .boolean]
  staticTypes := #[.long, .boolean, (.array (.object "java/io/ObjectStreamField")), .char, (.object "java/util/Comparator"), .byte, .byte]
  resolved := Array.replicate 1451 none
  statics := some 0 }

def pool8 : Array CpInfo := pool [(6, .class_ 8), (1, u "java/lang/Object"), (0, u "<init>"), (0, u "()V"), (1, .class_ 14), (1, u "java/lang/StringUTF16"), (31, u "$assertionsDisabled"), (0, u "Z"), (13, u "HI_BYTE_SHIFT"), (0, u "I"), (2, u "LO_BYTE_SHIFT"), (49, .methodref 12 116), (0, .nameAndType 117 118), (0, u "compress"), (0, u "([CI[BII)I"), (3, u "([CII)[B"), (138, u "coderFromArrayLen"), (0, u "([BI)B"), (106, .class_ 371), (1, u "java/lang/StringUTF16$LinesSpliterator"), (58, u "MAX_LENGTH"), (196, .class_ 628), (0, u "java/lang/StringUTF16$CodePointsSpliterator"), (0, .class_ 630), (0, u "java/lang/StringUTF16$CharsSpliterator")] 4

def k8m0 : Method := { name := "<init>", desc := "()V", sig := { parameters := [], returnType := none }, accessFlags := 0, code := none }
def k8c1 : Code := { maxStack := 2, maxLocals := 2, code := jdk_52_method_15_code, exceptionTable := #[], attributes := #[] }
def k8m1 : Method := { name := "coderFromArrayLen", desc := "([BI)B", sig := { parameters := [(.array .byte), .int], returnType := some .byte }, accessFlags := 8, code := some k8c1 }
def k8c2 : Code := { maxStack := 5, maxLocals := 6, code := jdk_52_method_16_code, exceptionTable := #[], attributes := #[] }
def k8m2 : Method := { name := "compress", desc := "([CII)[B", sig := { parameters := [(.array .char), .int, .int], returnType := some (.array .byte) }, accessFlags := 9, code := some k8c2 }
def k8c3 : Code := { maxStack := 3, maxLocals := 7, code := jdk_52_method_21_code, exceptionTable := #[], attributes := #[] }
def k8m3 : Method := { name := "compress", desc := "([CI[BII)I", sig := { parameters := [(.array .char), .int, (.array .byte), .int, .int], returnType := some .int }, accessFlags := 9, code := some k8c3 }
/-- java/lang/StringUTF16 -/
def k8 : Class := { plain "java/lang/StringUTF16" (some 0) with
  accessFlags := 48
  interfaces := #[]
  cf := some (fileOf pool8 12 #[.nestMembers #[627, 629, 369]] #[{ accessFlags := 0, nameIndex := 9, descriptorIndex := 10, attributes := #[] }, { accessFlags := 8, nameIndex := 261, descriptorIndex := 262, attributes := #[] }, { accessFlags := 9, nameIndex := 117, descriptorIndex := 122, attributes := #[] }, { accessFlags := 9, nameIndex := 117, descriptorIndex := 118, attributes := #[] }] 48 6 #[] #[{ accessFlags := 26, nameIndex := 61, descriptorIndex := 62, attributes := #[] }, { accessFlags := 26, nameIndex := 65, descriptorIndex := 62, attributes := #[] }, { accessFlags := 24, nameIndex := 430, descriptorIndex := 62, attributes := #[] }, { accessFlags := 4120, nameIndex := 46, descriptorIndex := 47, attributes := #[] }])
  fields := #[{ name := "HI_BYTE_SHIFT", type := .int, accessFlags := 26, slot := 0, constantValue := 0 }, { name := "LO_BYTE_SHIFT", type := .int, accessFlags := 26, slot := 1, constantValue := 0 }, { name := "MAX_LENGTH", type := .int, accessFlags := 24, slot := 2, constantValue := 0 }, { name := "$assertionsDisabled", type := .boolean, accessFlags := 4120, slot := 3, constantValue := 0 }]
  methods := #[k8m0, k8m1, k8m2, k8m3]
  instanceTypes := #[]
  staticTypes := #[.int, .int, .int, .boolean]
  resolved := Array.replicate 635 none
  statics := none }

def pool9 : Array CpInfo := pool [(1, .methodref 2 3), (0, .class_ 4), (0, .nameAndType 5 6), (0, u "java/lang/Object"), (0, u "<init>"), (0, u "()V"), (0, .class_ 8), (0, u "java/lang/Record")] 13

def k9c0 : Code := { maxStack := 1, maxLocals := 1, code := jdk_30_method_1_code, exceptionTable := #[], attributes := #[] }
def k9m0 : Method := { name := "<init>", desc := "()V", sig := { parameters := [], returnType := none }, accessFlags := 4, code := some k9c0 }
/-- java/lang/Record -/
def k9 : Class := { plain "java/lang/Record" (some 0) with
  accessFlags := 1057
  interfaces := #[]
  cf := some (fileOf pool9 7 #[] #[{ accessFlags := 4, nameIndex := 5, descriptorIndex := 6, attributes := #[] }] 1057 2 #[] #[])
  fields := #[]
  methods := #[k9m0]
  instanceTypes := #[]
  staticTypes := #[]
  resolved := Array.replicate 22 none
  statics := none }

def pool10 : Array CpInfo := pool [(1, .methodref 2 3), (0, .class_ 4), (0, .nameAndType 5 6), (0, u "java/lang/Record"), (0, u "<init>"), (0, u "()V"), (0, .fieldref 8 9), (0, .class_ 10), (0, .nameAndType 11 12), (0, u "com/example/quaymark/quaymark/Review$LeftOut"), (0, u "line"), (0, u "I"), (0, .fieldref 8 14), (0, .nameAndType 15 16), (0, u "reason"), (0, u "Ljava/lang/String;"), (0, .fieldref 8 18), (0, .nameAndType 19 16), (0, u "by"), (12, u "(ILjava/lang/String;Ljava/lang/String;)V"), (9, .class_ 43), (0, u "com/example/quaymark/quaymark/Review")] 21

def k10c0 : Code := { maxStack := 2, maxLocals := 4, code := prog_24_method_1_code, exceptionTable := #[], attributes := #[] }
def k10m0 : Method := { name := "<init>", desc := "(ILjava/lang/String;Ljava/lang/String;)V", sig := { parameters := [.int, (.object "java/lang/String"), (.object "java/lang/String")], returnType := none }, accessFlags := 0, code := some k10c0 }
/-- com/example/quaymark/quaymark/Review$LeftOut -/
def k10 : Class := { plain "com/example/quaymark/quaymark/Review$LeftOut" (some 9) with
  accessFlags := 48
  interfaces := #[]
  cf := some (fileOf pool10 8 #[.nestHost 42] #[{ accessFlags := 0, nameIndex := 5, descriptorIndex := 32, attributes := #[] }] 48 2 #[] #[{ accessFlags := 18, nameIndex := 11, descriptorIndex := 12, attributes := #[] }, { accessFlags := 18, nameIndex := 15, descriptorIndex := 16, attributes := #[] }, { accessFlags := 18, nameIndex := 19, descriptorIndex := 16, attributes := #[] }])
  fields := #[{ name := "line", type := .int, accessFlags := 18, slot := 0, constantValue := 0 }, { name := "reason", type := (.object "java/lang/String"), accessFlags := 18, slot := 1, constantValue := 0 }, { name := "by", type := (.object "java/lang/String"), accessFlags := 18, slot := 2, constantValue := 0 }]
  methods := #[k10m0]
  instanceTypes := #[.int, (.object "java/lang/String"), (.object "java/lang/String")]
  staticTypes := #[]
  resolved := Array.replicate 65 none
  statics := none }

def pool11 : Array CpInfo := pool [(8, .class_ 10), (1, u "java/lang/Iterable"), (24, .class_ 36), (0, u "java/lang/Object")] 25

/-- java/lang/Iterable -/
def k11 : Class := { plain "java/lang/Iterable" (some 0) with
  accessFlags := 1537
  interfaces := #[]
  cf := some (fileOf pool11 8 #[] #[] 1537 35 #[] #[])
  fields := #[]
  methods := #[]
  instanceTypes := #[]
  staticTypes := #[]
  resolved := Array.replicate 62 none
  statics := none }

def pool12 : Array CpInfo := pool [(10, .class_ 12), (1, u "java/util/Collection"), (0, u "toArray"), (16, u "()Z"), (29, .class_ 61), (0, u "java/lang/Object"), (0, .class_ 63), (0, u "java/lang/Iterable"), (2, u "isEmpty"), (3, u "()[Ljava/lang/Object;")] 44

def k12m0 : Method := { name := "isEmpty", desc := "()Z", sig := { parameters := [], returnType := some .boolean }, accessFlags := 1025, code := none }
def k12m1 : Method := { name := "toArray", desc := "()[Ljava/lang/Object;", sig := { parameters := [], returnType := some (.array (.object "java/lang/Object")) }, accessFlags := 1025, code := none }
/-- java/util/Collection -/
def k12 : Class := { plain "java/util/Collection" (some 0) with
  accessFlags := 1537
  interfaces := #[11]
  cf := some (fileOf pool12 10 #[] #[{ accessFlags := 1025, nameIndex := 66, descriptorIndex := 30, attributes := #[] }, { accessFlags := 1025, nameIndex := 13, descriptorIndex := 70, attributes := #[] }] 1537 60 #[62] #[])
  fields := #[]
  methods := #[k12m0, k12m1]
  instanceTypes := #[]
  staticTypes := #[]
  resolved := Array.replicate 115 none
  statics := none }

def pool13 : Array CpInfo := pool [(1, .methodref 2 3), (0, .class_ 4), (0, .nameAndType 5 6), (0, u "java/lang/Object"), (0, u "<init>"), (0, u "()V"), (1, .class_ 10), (1, u "java/util/AbstractCollection"), (66, .class_ 78), (0, u "java/util/Collection")] 81

def k13c0 : Code := { maxStack := 1, maxLocals := 1, code := jdk_22_method_1_code, exceptionTable := #[], attributes := #[] }
def k13m0 : Method := { name := "<init>", desc := "()V", sig := { parameters := [], returnType := none }, accessFlags := 4, code := some k13c0 }
/-- java/util/AbstractCollection -/
def k13 : Class := { plain "java/util/AbstractCollection" (some 0) with
  accessFlags := 1057
  interfaces := #[12]
  cf := some (fileOf pool13 8 #[] #[{ accessFlags := 4, nameIndex := 5, descriptorIndex := 6, attributes := #[] }] 1057 2 #[77] #[])
  fields := #[]
  methods := #[k13m0]
  instanceTypes := #[]
  staticTypes := #[]
  resolved := Array.replicate 160 none
  statics := none }

def pool14 : Array CpInfo := pool [(8, .class_ 10), (1, u "java/util/SequencedCollection"), (15, .class_ 27), (0, u "java/lang/Object"), (0, .class_ 29), (0, u "java/util/Collection")] 27

/-- java/util/SequencedCollection -/
def k14 : Class := { plain "java/util/SequencedCollection" (some 0) with
  accessFlags := 1537
  interfaces := #[12]
  cf := some (fileOf pool14 8 #[] #[] 1537 26 #[28] #[])
  fields := #[]
  methods := #[]
  instanceTypes := #[]
  staticTypes := #[]
  resolved := Array.replicate 57 none
  statics := none }

def pool15 : Array CpInfo := pool [(8, .class_ 10), (1, u "java/util/List"), (20, u "(Ljava/lang/Object;)V"), (16, u "<init>"), (11, u "add"), (3, u "(Ljava/lang/Object;)Z"), (10, u "get"), (0, u "(I)Ljava/lang/Object;"), (2, u "size"), (0, u "()I"), (7, u "of"), (1, .fieldref 91 92), (0, .class_ 93), (0, .nameAndType 94 95), (0, u "java/util/ImmutableCollections"), (0, u "EMPTY_LIST"), (0, u "Ljava/util/ImmutableCollections$ListN;"), (0, .class_ 97), (0, u "java/util/ImmutableCollections$List12"), (0, .methodref 96 99), (0, .nameAndType 48 31), (0, .methodref 96 101), (0, .nameAndType 48 102), (0, u "(Ljava/lang/Object;Ljava/lang/Object;)V"), (0, .class_ 104), (0, u "java/lang/Object"), (3, u "([Ljava/lang/Object;)Ljava/util/List;"), (3, .methodref 91 113), (0, .nameAndType 114 115), (0, u "listCopy"), (0, u "(Ljava/util/Collection;)Ljava/util/List;"), (3, u "()Ljava/util/List;"), (0, .class_ 121), (0, u "java/util/SequencedCollection"), (112, u "copyOf")] 16

def k15m0 : Method := { name := "size", desc := "()I", sig := { parameters := [], returnType := some .int }, accessFlags := 1025, code := none }
def k15m1 : Method := { name := "add", desc := "(Ljava/lang/Object;)Z", sig := { parameters := [(.object "java/lang/Object")], returnType := some .boolean }, accessFlags := 1025, code := none }
def k15m2 : Method := { name := "get", desc := "(I)Ljava/lang/Object;", sig := { parameters := [.int], returnType := some (.object "java/lang/Object") }, accessFlags := 1025, code := none }
def k15c3 : Code := { maxStack := 1, maxLocals := 0, code := jdk_40_method_36_code, exceptionTable := #[], attributes := #[] }
def k15m3 : Method := { name := "of", desc := "()Ljava/util/List;", sig := { parameters := [], returnType := some (.object "java/util/List") }, accessFlags := 9, code := some k15c3 }
def k15c4 : Code := { maxStack := 5, maxLocals := 2, code := jdk_40_method_47_code, exceptionTable := #[], attributes := #[] }
def k15m4 : Method := { name := "of", desc := "([Ljava/lang/Object;)Ljava/util/List;", sig := { parameters := [(.array (.object "java/lang/Object"))], returnType := some (.object "java/util/List") }, accessFlags := 137, code := some k15c4 }
def k15c5 : Code := { maxStack := 1, maxLocals := 1, code := jdk_40_method_48_code, exceptionTable := #[], attributes := #[] }
def k15m5 : Method := { name := "copyOf", desc := "(Ljava/util/Collection;)Ljava/util/List;", sig := { parameters := [(.object "java/util/Collection")], returnType := some (.object "java/util/List") }, accessFlags := 9, code := some k15c5 }
/-- java/util/List -/
def k15 : Class := { plain "java/util/List" (some 0) with
  accessFlags := 1537
  interfaces := #[14]
  cf := some (fileOf pool15 8 #[] #[{ accessFlags := 1025, nameIndex := 79, descriptorIndex := 80, attributes := #[] }, { accessFlags := 1025, nameIndex := 60, descriptorIndex := 64, attributes := #[] }, { accessFlags := 1025, nameIndex := 75, descriptorIndex := 76, attributes := #[] }, { accessFlags := 9, nameIndex := 88, descriptorIndex := 119, attributes := #[] }, { accessFlags := 137, nameIndex := 88, descriptorIndex := 108, attributes := #[] }, { accessFlags := 9, nameIndex := 234, descriptorIndex := 115, attributes := #[] }] 1537 103 #[120] #[])
  fields := #[]
  methods := #[k15m0, k15m1, k15m2, k15m3, k15m4, k15m5]
  instanceTypes := #[]
  staticTypes := #[]
  resolved := Array.replicate 251 none
  statics := none }

def pool16 : Array CpInfo := pool [(1, .methodref 2 3), (0, .class_ 4), (0, .nameAndType 5 6), (0, u "java/util/AbstractCollection"), (0, u "<init>"), (0, u "()V"), (0, .fieldref 8 9), (0, .class_ 10), (0, .nameAndType 11 12), (0, u "java/util/AbstractList"), (0, u "modCount"), (0, u "I"), (64, .class_ 78), (0, u "java/util/AbstractList$Itr"), (3, .class_ 83), (0, u "java/util/AbstractList$ListItr"), (9, .class_ 94), (0, u "java/util/AbstractList$RandomAccessSubList"), (3, .class_ 99), (0, u "java/util/AbstractList$SubList"), (33, .class_ 134), (0, u "java/util/List"), (73, .class_ 209), (0, u "java/util/AbstractList$SubList$1"), (0, .class_ 211), (0, u "java/util/AbstractList$RandomAccessSpliterator")] 6

def k16c0 : Code := { maxStack := 2, maxLocals := 1, code := jdk_39_method_1_code, exceptionTable := #[], attributes := #[] }
def k16m0 : Method := { name := "<init>", desc := "()V", sig := { parameters := [], returnType := none }, accessFlags := 4, code := some k16c0 }
/-- java/util/AbstractList -/
def k16 : Class := { plain "java/util/AbstractList" (some 13) with
  accessFlags := 1057
  interfaces := #[15]
  cf := some (fileOf pool16 8 #[.nestMembers #[93, 98, 208, 210, 82, 77]] #[{ accessFlags := 4, nameIndex := 5, descriptorIndex := 6, attributes := #[] }] 1057 2 #[133] #[{ accessFlags := 132, nameIndex := 11, descriptorIndex := 12, attributes := #[] }])
  fields := #[{ name := "modCount", type := .int, accessFlags := 132, slot := 0, constantValue := 0 }]
  methods := #[k16m0]
  instanceTypes := #[.int]
  staticTypes := #[]
  resolved := Array.replicate 218 none
  statics := none }

def pool17 : Array CpInfo := pool [(1, .class_ 2), (0, u "java/util/RandomAccess"), (0, .class_ 4), (0, u "java/lang/Object")] 2

/-- java/util/RandomAccess -/
def k17 : Class := { plain "java/util/RandomAccess" (some 0) with
  accessFlags := 1537
  interfaces := #[]
  cf := some (fileOf pool17 1 #[] #[] 1537 3 #[] #[])
  fields := #[]
  methods := #[]
  instanceTypes := #[]
  staticTypes := #[]
  resolved := Array.replicate 7 none
  statics := none }

def pool18 : Array CpInfo := pool [(1, .class_ 2), (0, u "java/lang/Cloneable"), (0, .class_ 4), (0, u "java/lang/Object")] 2

/-- java/lang/Cloneable -/
def k18 : Class := { plain "java/lang/Cloneable" (some 0) with
  accessFlags := 1537
  interfaces := #[]
  cf := some (fileOf pool18 1 #[] #[] 1537 3 #[] #[])
  fields := #[]
  methods := #[]
  instanceTypes := #[]
  staticTypes := #[]
  resolved := Array.replicate 7 none
  statics := none }

def pool19 : Array CpInfo := pool [(1, .methodref 2 3), (0, .class_ 4), (0, .nameAndType 5 6), (0, u "java/util/AbstractList"), (0, u "<init>"), (0, u "()V"), (0, .class_ 8), (0, u "java/lang/Object"), (0, .fieldref 10 11), (0, .class_ 12), (0, .nameAndType 13 14), (0, u "java/util/ArrayList"), (0, u "elementData"), (0, u "[Ljava/lang/Object;"), (2, u "EMPTY_ELEMENTDATA"), (21, .fieldref 10 40), (0, .nameAndType 41 14), (0, u "DEFAULTCAPACITY_EMPTY_ELEMENTDATA"), (4, u "toArray"), (0, u "()[Ljava/lang/Object;"), (0, .fieldref 10 49), (0, .nameAndType 50 51), (0, u "size"), (0, u "I"), (6, .class_ 60), (1, u "java/util/Arrays"), (0, u "copyOf"), (1, .fieldref 10 64), (0, .nameAndType 65 51), (0, u "modCount"), (0, .methodref 58 67), (0, .nameAndType 61 68), (0, u "([Ljava/lang/Object;I)[Ljava/lang/Object;"), (0, .methodref 10 70), (0, .nameAndType 71 72), (0, u "grow"), (0, u "(I)[Ljava/lang/Object;"), (6, .methodref 80 81), (0, .class_ 82), (0, .nameAndType 83 84), (0, u "java/lang/Math"), (0, u "max"), (0, u "(II)I"), (11, u "(Ljava/lang/Object;)Z"), (32, .methodref 10 130), (0, .nameAndType 71 47), (0, .methodref 10 132), (0, .nameAndType 133 134), (0, u "add"), (0, u "(Ljava/lang/Object;[Ljava/lang/Object;I)V"), (13, .class_ 149), (0, u "java/util/List"), (23, u "()Z"), (88, .class_ 263), (0, u "java/util/ArrayList$ListItr"), (3, .class_ 268), (0, u "java/util/ArrayList$Itr"), (7, .class_ 277), (0, u "java/util/ArrayList$SubList"), (12, .class_ 291), (0, u "java/util/ArrayList$ArrayListSpliterator"), (37, .class_ 330), (0, u "java/util/RandomAccess"), (0, .class_ 332), (0, u "java/lang/Cloneable"), (0, .class_ 334), (0, u "java/io/Serializable"), (0, u "serialVersionUID"), (0, u "J"), (3, u "DEFAULT_CAPACITY"), (22, u "isEmpty"), (136, .class_ 501), (0, u "java/util/ArrayList$SubList$2"), (0, .class_ 503), (0, u "java/util/ArrayList$SubList$1")] 5

def k19c0 : Code := { maxStack := 2, maxLocals := 1, code := jdk_38_method_2_code, exceptionTable := #[], attributes := #[] }
def k19m0 : Method := { name := "<init>", desc := "()V", sig := { parameters := [], returnType := none }, accessFlags := 1, code := some k19c0 }
def k19c1 : Code := { maxStack := 4, maxLocals := 4, code := jdk_38_method_6_code, exceptionTable := #[], attributes := #[] }
def k19m1 : Method := { name := "grow", desc := "(I)[Ljava/lang/Object;", sig := { parameters := [.int], returnType := some (.array (.object "java/lang/Object")) }, accessFlags := 2, code := some k19c1 }
def k19c2 : Code := { maxStack := 3, maxLocals := 1, code := jdk_38_method_7_code, exceptionTable := #[], attributes := #[] }
def k19m2 : Method := { name := "grow", desc := "()[Ljava/lang/Object;", sig := { parameters := [], returnType := some (.array (.object "java/lang/Object")) }, accessFlags := 2, code := some k19c2 }
def k19c3 : Code := { maxStack := 1, maxLocals := 1, code := jdk_38_method_9_code, exceptionTable := #[], attributes := #[] }
def k19m3 : Method := { name := "isEmpty", desc := "()Z", sig := { parameters := [], returnType := some .boolean }, accessFlags := 1, code := some k19c3 }
def k19c4 : Code := { maxStack := 2, maxLocals := 1, code := jdk_38_method_16_code, exceptionTable := #[], attributes := #[] }
def k19m4 : Method := { name := "toArray", desc := "()[Ljava/lang/Object;", sig := { parameters := [], returnType := some (.array (.object "java/lang/Object")) }, accessFlags := 1, code := some k19c4 }
def k19c5 : Code := { maxStack := 3, maxLocals := 4, code := jdk_38_method_24_code, exceptionTable := #[], attributes := #[] }
def k19m5 : Method := { name := "add", desc := "(Ljava/lang/Object;[Ljava/lang/Object;I)V", sig := { parameters := [(.object "java/lang/Object"), (.array (.object "java/lang/Object")), .int], returnType := none }, accessFlags := 2, code := some k19c5 }
def k19c6 : Code := { maxStack := 4, maxLocals := 2, code := jdk_38_method_25_code, exceptionTable := #[], attributes := #[] }
def k19m6 : Method := { name := "add", desc := "(Ljava/lang/Object;)Z", sig := { parameters := [(.object "java/lang/Object")], returnType := some .boolean }, accessFlags := 1, code := some k19c6 }
/-- java/util/ArrayList -/
def k19 : Class := { plain "java/util/ArrayList" (some 16) with
  accessFlags := 33
  interfaces := #[15, 17, 18, 2]
  cf := some (fileOf pool19 10 #[.nestMembers #[290, 276, 500, 502, 262, 267]] #[{ accessFlags := 1, nameIndex := 5, descriptorIndex := 6, attributes := #[] }, { accessFlags := 2, nameIndex := 71, descriptorIndex := 72, attributes := #[] }, { accessFlags := 2, nameIndex := 71, descriptorIndex := 47, attributes := #[] }, { accessFlags := 1, nameIndex := 363, descriptorIndex := 173, attributes := #[] }, { accessFlags := 1, nameIndex := 46, descriptorIndex := 47, attributes := #[] }, { accessFlags := 2, nameIndex := 133, descriptorIndex := 134, attributes := #[] }, { accessFlags := 1, nameIndex := 133, descriptorIndex := 96, attributes := #[] }] 33 2 #[148, 329, 331, 333] #[{ accessFlags := 26, nameIndex := 335, descriptorIndex := 336, attributes := #[] }, { accessFlags := 26, nameIndex := 340, descriptorIndex := 51, attributes := #[] }, { accessFlags := 26, nameIndex := 17, descriptorIndex := 14, attributes := #[] }, { accessFlags := 26, nameIndex := 41, descriptorIndex := 14, attributes := #[] }, { accessFlags := 128, nameIndex := 13, descriptorIndex := 14, attributes := #[] }, { accessFlags := 2, nameIndex := 50, descriptorIndex := 51, attributes := #[] }])
  fields := #[{ name := "serialVersionUID", type := .long, accessFlags := 26, slot := 0, constantValue := 0 }, { name := "DEFAULT_CAPACITY", type := .int, accessFlags := 26, slot := 1, constantValue := 0 }, { name := "EMPTY_ELEMENTDATA", type := (.array (.object "java/lang/Object")), accessFlags := 26, slot := 2, constantValue := 0 }, { name := "DEFAULTCAPACITY_EMPTY_ELEMENTDATA", type := (.array (.object "java/lang/Object")), accessFlags := 26, slot := 3, constantValue := 0 }, { name := "elementData", type := (.array (.object "java/lang/Object")), accessFlags := 128, slot := 1, constantValue := 0 }, { name := "size", type := .int, accessFlags := 2, slot := 2, constantValue := 0 }]
  methods := #[k19m0, k19m1, k19m2, k19m3, k19m4, k19m5, k19m6]
  instanceTypes := #[.int, (.array (.object "java/lang/Object")), .int]
  staticTypes := #[.long, .int, (.array (.object "java/lang/Object")), (.array (.object "java/lang/Object"))]
  resolved := Array.replicate 509 none
  statics := some 1 }

def pool20 : Array CpInfo := pool [(1, .methodref 2 3), (0, .class_ 4), (0, .nameAndType 5 6), (0, u "java/lang/Record"), (0, u "<init>"), (0, u "()V"), (0, .interfaceMethodref 8 9), (0, .class_ 10), (0, .nameAndType 11 12), (0, u "java/util/List"), (0, u "copyOf"), (0, u "(Ljava/util/Collection;)Ljava/util/List;"), (0, .fieldref 14 15), (0, .class_ 16), (0, .nameAndType 17 18), (0, u "com/example/quaymark/quaymark/Review"), (0, u "submittedBy"), (0, u "Ljava/lang/String;"), (0, .fieldref 14 20), (0, .nameAndType 21 22), (0, u "leftOut"), (0, u "Ljava/util/List;"), (0, .fieldref 14 24), (0, .nameAndType 25 18), (0, u "signedOffBy"), (0, .fieldref 14 27), (0, .nameAndType 28 29), (0, u "withdrawn"), (0, u "Lcom/example/quaymark/quaymark/Review$Withdrawal;"), (3, u "()Ljava/util/List;"), (0, .methodref 14 35), (0, .nameAndType 5 36), (0, u "(Ljava/lang/String;Ljava/util/List;Ljava/lang/String;Lcom/example/quaymark/quaymark/Review$Withdrawal;)V"), (23, .class_ 61), (0, u "com/example/quaymark/quaymark/Review$LeftOut"), (9, u "()Ljava/lang/String;"), (44, u "MAX_TEXT"), (0, u "I"), (11, u "withdrawing"), (0, u "(Lcom/example/quaymark/quaymark/Review$Withdrawal;)Lcom/example/quaymark/quaymark/Review;"), (7, u "()Lcom/example/quaymark/quaymark/Review$Withdrawal;"), (3, .class_ 143), (0, u "com/example/quaymark/quaymark/Review$Withdrawal")] 33

def k20c0 : Code := { maxStack := 2, maxLocals := 5, code := prog_23_method_1_code, exceptionTable := #[], attributes := #[] }
def k20m0 : Method := { name := "<init>", desc := "(Ljava/lang/String;Ljava/util/List;Ljava/lang/String;Lcom/example/quaymark/quaymark/Review$Withdrawal;)V", sig := { parameters := [(.object "java/lang/String"), (.object "java/util/List"), (.object "java/lang/String"), (.object "com/example/quaymark/quaymark/Review$Withdrawal")], returnType := none }, accessFlags := 0, code := some k20c0 }
def k20c1 : Code := { maxStack := 6, maxLocals := 2, code := prog_23_method_5_code, exceptionTable := #[], attributes := #[] }
def k20m1 : Method := { name := "withdrawing", desc := "(Lcom/example/quaymark/quaymark/Review$Withdrawal;)Lcom/example/quaymark/quaymark/Review;", sig := { parameters := [(.object "com/example/quaymark/quaymark/Review$Withdrawal")], returnType := some (.object "com/example/quaymark/quaymark/Review") }, accessFlags := 0, code := some k20c1 }
def k20c2 : Code := { maxStack := 1, maxLocals := 1, code := prog_23_method_12_code, exceptionTable := #[], attributes := #[] }
def k20m2 : Method := { name := "submittedBy", desc := "()Ljava/lang/String;", sig := { parameters := [], returnType := some (.object "java/lang/String") }, accessFlags := 1, code := some k20c2 }
def k20c3 : Code := { maxStack := 1, maxLocals := 1, code := prog_23_method_13_code, exceptionTable := #[], attributes := #[] }
def k20m3 : Method := { name := "leftOut", desc := "()Ljava/util/List;", sig := { parameters := [], returnType := some (.object "java/util/List") }, accessFlags := 1, code := some k20c3 }
def k20c4 : Code := { maxStack := 1, maxLocals := 1, code := prog_23_method_14_code, exceptionTable := #[], attributes := #[] }
def k20m4 : Method := { name := "signedOffBy", desc := "()Ljava/lang/String;", sig := { parameters := [], returnType := some (.object "java/lang/String") }, accessFlags := 1, code := some k20c4 }
def k20c5 : Code := { maxStack := 1, maxLocals := 1, code := prog_23_method_15_code, exceptionTable := #[], attributes := #[] }
def k20m5 : Method := { name := "withdrawn", desc := "()Lcom/example/quaymark/quaymark/Review$Withdrawal;", sig := { parameters := [], returnType := some (.object "com/example/quaymark/quaymark/Review$Withdrawal") }, accessFlags := 1, code := some k20c5 }
/-- com/example/quaymark/quaymark/Review -/
def k20 : Class := { plain "com/example/quaymark/quaymark/Review" (some 9) with
  accessFlags := 48
  interfaces := #[]
  cf := some (fileOf pool20 14 #[.nestMembers #[142, 60]] #[{ accessFlags := 0, nameIndex := 5, descriptorIndex := 36, attributes := #[] }, { accessFlags := 0, nameIndex := 129, descriptorIndex := 130, attributes := #[] }, { accessFlags := 1, nameIndex := 17, descriptorIndex := 71, attributes := #[] }, { accessFlags := 1, nameIndex := 21, descriptorIndex := 33, attributes := #[] }, { accessFlags := 1, nameIndex := 25, descriptorIndex := 71, attributes := #[] }, { accessFlags := 1, nameIndex := 28, descriptorIndex := 138, attributes := #[] }] 48 2 #[] #[{ accessFlags := 18, nameIndex := 17, descriptorIndex := 18, attributes := #[] }, { accessFlags := 18, nameIndex := 21, descriptorIndex := 22, attributes := #[] }, { accessFlags := 18, nameIndex := 25, descriptorIndex := 18, attributes := #[] }, { accessFlags := 18, nameIndex := 28, descriptorIndex := 29, attributes := #[] }, { accessFlags := 24, nameIndex := 116, descriptorIndex := 117, attributes := #[] }])
  fields := #[{ name := "submittedBy", type := (.object "java/lang/String"), accessFlags := 18, slot := 0, constantValue := 0 }, { name := "leftOut", type := (.object "java/util/List"), accessFlags := 18, slot := 1, constantValue := 0 }, { name := "signedOffBy", type := (.object "java/lang/String"), accessFlags := 18, slot := 2, constantValue := 0 }, { name := "withdrawn", type := (.object "com/example/quaymark/quaymark/Review$Withdrawal"), accessFlags := 18, slot := 3, constantValue := 0 }, { name := "MAX_TEXT", type := .int, accessFlags := 24, slot := 0, constantValue := 0 }]
  methods := #[k20m0, k20m1, k20m2, k20m3, k20m4, k20m5]
  instanceTypes := #[(.object "java/lang/String"), (.object "java/util/List"), (.object "java/lang/String"), (.object "com/example/quaymark/quaymark/Review$Withdrawal")]
  staticTypes := #[.int]
  resolved := Array.replicate 177 none
  statics := none }

def pool21 : Array CpInfo := pool [(2, .class_ 4), (1, u "java/lang/Object"), (0, u "<init>"), (0, u "()V"), (3, .class_ 11), (0, u "java/util/ImmutableCollections$List12"), (0, .class_ 13), (0, u "java/util/ImmutableCollections$ListN"), (0, .fieldref 12 15), (0, .nameAndType 16 17), (0, u "allowNulls"), (0, u "Z"), (0, .class_ 19), (0, u "java/util/List"), (0, .interfaceMethodref 21 22), (0, .class_ 23), (0, .nameAndType 24 25), (0, u "java/util/Collection"), (0, u "isEmpty"), (0, u "()Z"), (0, .interfaceMethodref 18 27), (0, .nameAndType 28 29), (0, u "of"), (0, u "()Ljava/util/List;"), (0, .interfaceMethodref 21 31), (0, .nameAndType 32 33), (0, u "toArray"), (0, u "()[Ljava/lang/Object;"), (0, .interfaceMethodref 18 35), (0, .nameAndType 28 36), (0, u "([Ljava/lang/Object;)Ljava/util/List;"), (10, .class_ 49), (1, u "java/util/ImmutableCollections"), (0, u "$assertionsDisabled"), (5, u "[Ljava/lang/Object;"), (5, u "EMPTY_LIST"), (0, u "Ljava/util/ImmutableCollections$ListN;"), (8, u "EMPTY_LIST_NULLS"), (22, u "SALT32L"), (0, u "J"), (2, u "REVERSE"), (6, u "archivedObjects"), (2, u "EMPTY"), (0, u "Ljava/lang/Object;"), (0, .class_ 112), (0, u "java/util/ImmutableCollections$SetN"), (5, u "EMPTY_SET"), (0, u "Ljava/util/ImmutableCollections$SetN;"), (0, .class_ 121), (0, u "java/util/ImmutableCollections$MapN"), (3, u "EMPTY_MAP"), (0, u "Ljava/util/ImmutableCollections$MapN;"), (4, u "EXPAND_FACTOR"), (0, u "I"), (9, u "listCopy"), (0, u "(Ljava/util/Collection;)Ljava/util/List;"), (25, .class_ 170), (0, u "java/util/ImmutableCollections$MapN$MapNIterator"), (0, .class_ 172), (0, u "java/util/ImmutableCollections$MapN$1"), (0, .class_ 174), (0, u "java/util/ImmutableCollections$Map1"), (0, .class_ 176), (0, u "java/util/ImmutableCollections$AbstractImmutableMap"), (0, .class_ 178), (0, u "java/util/ImmutableCollections$SetN$SetNIterator"), (0, .class_ 180), (0, u "java/util/ImmutableCollections$Set12"), (0, .class_ 182), (0, u "java/util/ImmutableCollections$Set12$1"), (0, .class_ 184), (0, u "java/util/ImmutableCollections$AbstractImmutableSet"), (0, .class_ 186), (0, u "java/util/ImmutableCollections$SubList"), (0, .class_ 188), (0, u "java/util/ImmutableCollections$ListItr"), (0, .class_ 190), (0, u "java/util/ImmutableCollections$AbstractImmutableList"), (0, .class_ 192), (0, u "java/util/ImmutableCollections$AbstractImmutableCollection"), (0, .class_ 194), (0, u "java/util/ImmutableCollections$Access"), (0, .class_ 196), (0, u "java/util/ImmutableCollections$Access$1")] 16

def k21m0 : Method := { name := "<init>", desc := "()V", sig := { parameters := [], returnType := none }, accessFlags := 2, code := none }
def k21c1 : Code := { maxStack := 1, maxLocals := 2, code := jdk_56_method_3_code, exceptionTable := #[], attributes := #[] }
def k21m1 : Method := { name := "listCopy", desc := "(Ljava/util/Collection;)Ljava/util/List;", sig := { parameters := [(.object "java/util/Collection")], returnType := some (.object "java/util/List") }, accessFlags := 8, code := some k21c1 }
/-- java/util/ImmutableCollections -/
def k21 : Class := { plain "java/util/ImmutableCollections" (some 0) with
  accessFlags := 32
  interfaces := #[]
  cf := some (fileOf pool21 47 #[.nestMembers #[120, 169, 171, 173, 175, 111, 177, 179, 181, 183, 12, 10, 185, 187, 189, 191, 193, 195]] #[{ accessFlags := 2, nameIndex := 5, descriptorIndex := 6, attributes := #[] }, { accessFlags := 8, nameIndex := 142, descriptorIndex := 143, attributes := #[] }] 32 2 #[] #[{ accessFlags := 26, nameIndex := 95, descriptorIndex := 96, attributes := #[] }, { accessFlags := 26, nameIndex := 99, descriptorIndex := 17, attributes := #[] }, { accessFlags := 10, nameIndex := 106, descriptorIndex := 56, attributes := #[] }, { accessFlags := 26, nameIndex := 109, descriptorIndex := 110, attributes := #[] }, { accessFlags := 24, nameIndex := 62, descriptorIndex := 63, attributes := #[] }, { accessFlags := 24, nameIndex := 72, descriptorIndex := 63, attributes := #[] }, { accessFlags := 24, nameIndex := 118, descriptorIndex := 119, attributes := #[] }, { accessFlags := 24, nameIndex := 125, descriptorIndex := 126, attributes := #[] }, { accessFlags := 24, nameIndex := 131, descriptorIndex := 132, attributes := #[] }, { accessFlags := 4120, nameIndex := 50, descriptorIndex := 17, attributes := #[] }])
  fields := #[{ name := "SALT32L", type := .long, accessFlags := 26, slot := 0, constantValue := 0 }, { name := "REVERSE", type := .boolean, accessFlags := 26, slot := 1, constantValue := 0 }, { name := "archivedObjects", type := (.array (.object "java/lang/Object")), accessFlags := 10, slot := 2, constantValue := 0 }, { name := "EMPTY", type := (.object "java/lang/Object"), accessFlags := 26, slot := 3, constantValue := 0 }, { name := "EMPTY_LIST", type := (.object "java/util/ImmutableCollections$ListN"), accessFlags := 24, slot := 4, constantValue := 0 }, { name := "EMPTY_LIST_NULLS", type := (.object "java/util/ImmutableCollections$ListN"), accessFlags := 24, slot := 5, constantValue := 0 }, { name := "EMPTY_SET", type := (.object "java/util/ImmutableCollections$SetN"), accessFlags := 24, slot := 6, constantValue := 0 }, { name := "EMPTY_MAP", type := (.object "java/util/ImmutableCollections$MapN"), accessFlags := 24, slot := 7, constantValue := 0 }, { name := "EXPAND_FACTOR", type := .int, accessFlags := 24, slot := 8, constantValue := 0 }, { name := "$assertionsDisabled", type := .boolean, accessFlags := 4120, slot := 9, constantValue := 0 }]
  methods := #[k21m0, k21m1]
  instanceTypes := #[]
  staticTypes := #[.long, .boolean, (.array (.object "java/lang/Object")), (.object "java/lang/Object"), (.object "java/util/ImmutableCollections$ListN"), (.object "java/util/ImmutableCollections$ListN"), (.object "java/util/ImmutableCollections$SetN"), (.object "java/util/ImmutableCollections$MapN"), .int, .boolean]
  resolved := Array.replicate 213 none
  statics := some 2 }

def pool22 : Array CpInfo := pool [(1, .methodref 2 3), (0, .class_ 4), (0, .nameAndType 5 6), (0, u "java/util/AbstractCollection"), (0, u "<init>"), (0, u "()V"), (1, .class_ 10), (1, u "java/util/ImmutableCollections"), (2, .class_ 14), (0, u "java/util/ImmutableCollections$AbstractImmutableCollection")] 41

def k22c0 : Code := { maxStack := 1, maxLocals := 1, code := jdk_47_method_1_code, exceptionTable := #[], attributes := #[] }
def k22m0 : Method := { name := "<init>", desc := "()V", sig := { parameters := [], returnType := none }, accessFlags := 0, code := some k22c0 }
/-- java/util/ImmutableCollections$AbstractImmutableCollection -/
def k22 : Class := { plain "java/util/ImmutableCollections$AbstractImmutableCollection" (some 13) with
  accessFlags := 1056
  interfaces := #[]
  cf := some (fileOf pool22 13 #[.nestHost 8] #[{ accessFlags := 0, nameIndex := 5, descriptorIndex := 6, attributes := #[] }] 1056 2 #[] #[])
  fields := #[]
  methods := #[k22m0]
  instanceTypes := #[]
  staticTypes := #[]
  resolved := Array.replicate 56 none
  statics := none }

def pool23 : Array CpInfo := pool [(1, .methodref 2 3), (0, .class_ 4), (0, .nameAndType 5 6), (0, u "java/util/ImmutableCollections$AbstractImmutableCollection"), (0, u "<init>"), (0, u "()V"), (1, .class_ 10), (1, u "java/util/ImmutableCollections"), (3, .class_ 16), (1, u "java/util/ImmutableCollections$AbstractImmutableList"), (60, .class_ 78), (0, u "java/util/List"), (45, .class_ 125), (0, u "java/util/RandomAccess")] 70

def k23c0 : Code := { maxStack := 1, maxLocals := 1, code := jdk_46_method_1_code, exceptionTable := #[], attributes := #[] }
def k23m0 : Method := { name := "<init>", desc := "()V", sig := { parameters := [], returnType := none }, accessFlags := 0, code := some k23c0 }
/-- java/util/ImmutableCollections$AbstractImmutableList -/
def k23 : Class := { plain "java/util/ImmutableCollections$AbstractImmutableList" (some 22) with
  accessFlags := 1056
  interfaces := #[15, 17]
  cf := some (fileOf pool23 14 #[.nestHost 8] #[{ accessFlags := 0, nameIndex := 5, descriptorIndex := 6, attributes := #[] }] 1056 2 #[77, 124] #[])
  fields := #[]
  methods := #[k23m0]
  instanceTypes := #[]
  staticTypes := #[]
  resolved := Array.replicate 196 none
  statics := none }

def pool24 : Array CpInfo := pool [(1, .methodref 2 3), (0, .class_ 4), (0, .nameAndType 5 6), (0, u "java/util/ImmutableCollections$AbstractImmutableList"), (0, u "<init>"), (0, u "()V"), (0, .methodref 8 9), (0, .class_ 10), (0, .nameAndType 11 12), (0, u "java/util/Objects"), (0, u "requireNonNull"), (0, u "(Ljava/lang/Object;)Ljava/lang/Object;"), (0, .fieldref 14 15), (0, .class_ 16), (0, .nameAndType 17 18), (0, u "java/util/ImmutableCollections$List12"), (0, u "e0"), (0, u "Ljava/lang/Object;"), (0, .fieldref 20 21), (0, .class_ 22), (0, .nameAndType 23 18), (0, u "java/util/ImmutableCollections"), (0, u "EMPTY"), (0, .fieldref 14 25), (0, .nameAndType 26 18), (0, u "e1"), (24, u "size"), (0, u "()I"), (17, .class_ 71), (0, u "java/io/Serializable"), (4, u "(Ljava/lang/Object;)V"), (8, u "(Ljava/lang/Object;Ljava/lang/Object;)V"), (4, u "get"), (0, u "(I)Ljava/lang/Object;")] 33

def k24c0 : Code := { maxStack := 2, maxLocals := 2, code := jdk_44_method_1_code, exceptionTable := #[], attributes := #[] }
def k24m0 : Method := { name := "<init>", desc := "(Ljava/lang/Object;)V", sig := { parameters := [(.object "java/lang/Object")], returnType := none }, accessFlags := 0, code := some k24c0 }
def k24c1 : Code := { maxStack := 2, maxLocals := 3, code := jdk_44_method_2_code, exceptionTable := #[], attributes := #[] }
def k24m1 : Method := { name := "<init>", desc := "(Ljava/lang/Object;Ljava/lang/Object;)V", sig := { parameters := [(.object "java/lang/Object"), (.object "java/lang/Object")], returnType := none }, accessFlags := 0, code := some k24c1 }
def k24c2 : Code := { maxStack := 2, maxLocals := 1, code := jdk_44_method_3_code, exceptionTable := #[], attributes := #[] }
def k24m2 : Method := { name := "size", desc := "()I", sig := { parameters := [], returnType := some .int }, accessFlags := 1, code := some k24c2 }
def k24c3 : Code := { maxStack := 2, maxLocals := 2, code := jdk_44_method_5_code, exceptionTable := #[], attributes := #[] }
def k24m3 : Method := { name := "get", desc := "(I)Ljava/lang/Object;", sig := { parameters := [.int], returnType := some (.object "java/lang/Object") }, accessFlags := 1, code := some k24c3 }
/-- java/util/ImmutableCollections$List12 -/
def k24 : Class := { plain "java/util/ImmutableCollections$List12" (some 23) with
  accessFlags := 48
  interfaces := #[2]
  cf := some (fileOf pool24 14 #[.nestHost 20] #[{ accessFlags := 0, nameIndex := 5, descriptorIndex := 76, attributes := #[] }, { accessFlags := 0, nameIndex := 5, descriptorIndex := 85, attributes := #[] }, { accessFlags := 1, nameIndex := 51, descriptorIndex := 52, attributes := #[] }, { accessFlags := 1, nameIndex := 90, descriptorIndex := 91, attributes := #[] }] 48 2 #[70] #[{ accessFlags := 18, nameIndex := 17, descriptorIndex := 18, attributes := #[] }, { accessFlags := 18, nameIndex := 26, descriptorIndex := 18, attributes := #[] }])
  fields := #[{ name := "e0", type := (.object "java/lang/Object"), accessFlags := 18, slot := 0, constantValue := 0 }, { name := "e1", type := (.object "java/lang/Object"), accessFlags := 18, slot := 1, constantValue := 0 }]
  methods := #[k24m0, k24m1, k24m2, k24m3]
  instanceTypes := #[(.object "java/lang/Object"), (.object "java/lang/Object")]
  staticTypes := #[]
  resolved := Array.replicate 125 none
  statics := none }

def pool25 : Array CpInfo := pool [(2, .class_ 4), (1, u "java/util/ImmutableCollections$AbstractImmutableList"), (2, .fieldref 8 9), (0, .class_ 10), (0, .nameAndType 11 12), (0, u "java/util/ImmutableCollections$ListN"), (0, u "elements"), (0, u "[Ljava/lang/Object;"), (2, u "allowNulls"), (0, u "Z"), (42, .class_ 60), (0, u "java/io/Serializable"), (16, u "size"), (0, u "()I"), (35, .class_ 115), (0, u "java/util/ImmutableCollections")] 3

def k25c0 : Code := { maxStack := 1, maxLocals := 1, code := jdk_45_method_3_code, exceptionTable := #[], attributes := #[] }
def k25m0 : Method := { name := "size", desc := "()I", sig := { parameters := [], returnType := some .int }, accessFlags := 1, code := some k25c0 }
/-- java/util/ImmutableCollections$ListN -/
def k25 : Class := { plain "java/util/ImmutableCollections$ListN" (some 23) with
  accessFlags := 48
  interfaces := #[2]
  cf := some (fileOf pool25 8 #[.nestHost 114] #[{ accessFlags := 1, nameIndex := 77, descriptorIndex := 78, attributes := #[] }] 48 2 #[59] #[{ accessFlags := 18, nameIndex := 11, descriptorIndex := 12, attributes := #[] }, { accessFlags := 18, nameIndex := 15, descriptorIndex := 16, attributes := #[] }])
  fields := #[{ name := "elements", type := (.array (.object "java/lang/Object")), accessFlags := 18, slot := 0, constantValue := 0 }, { name := "allowNulls", type := .boolean, accessFlags := 18, slot := 1, constantValue := 0 }]
  methods := #[k25m0]
  instanceTypes := #[(.array (.object "java/lang/Object")), .boolean]
  staticTypes := #[]
  resolved := Array.replicate 119 none
  statics := none }

def pool26 : Array CpInfo := pool [(1, .methodref 2 3), (0, .class_ 4), (0, .nameAndType 5 6), (0, u "java/lang/Record"), (0, u "<init>"), (0, u "()V"), (0, .fieldref 8 9), (0, .class_ 10), (0, .nameAndType 11 12), (0, u "com/example/quaymark/quaymark/Review$Withdrawal"), (0, u "reason"), (0, u "Ljava/lang/String;"), (0, .fieldref 8 14), (0, .nameAndType 15 12), (0, u "by"), (12, u "(Ljava/lang/String;Ljava/lang/String;)V"), (9, .class_ 39), (0, u "com/example/quaymark/quaymark/Review")] 20

def k26c0 : Code := { maxStack := 2, maxLocals := 3, code := prog_25_method_1_code, exceptionTable := #[], attributes := #[] }
def k26m0 : Method := { name := "<init>", desc := "(Ljava/lang/String;Ljava/lang/String;)V", sig := { parameters := [(.object "java/lang/String"), (.object "java/lang/String")], returnType := none }, accessFlags := 0, code := some k26c0 }
/-- com/example/quaymark/quaymark/Review$Withdrawal -/
def k26 : Class := { plain "com/example/quaymark/quaymark/Review$Withdrawal" (some 9) with
  accessFlags := 48
  interfaces := #[]
  cf := some (fileOf pool26 8 #[.nestHost 38] #[{ accessFlags := 0, nameIndex := 5, descriptorIndex := 28, attributes := #[] }] 48 2 #[] #[{ accessFlags := 18, nameIndex := 11, descriptorIndex := 12, attributes := #[] }, { accessFlags := 18, nameIndex := 15, descriptorIndex := 12, attributes := #[] }])
  fields := #[{ name := "reason", type := (.object "java/lang/String"), accessFlags := 18, slot := 0, constantValue := 0 }, { name := "by", type := (.object "java/lang/String"), accessFlags := 18, slot := 1, constantValue := 0 }]
  methods := #[k26m0]
  instanceTypes := #[(.object "java/lang/String"), (.object "java/lang/String")]
  staticTypes := #[]
  resolved := Array.replicate 60 none
  statics := none }

def pool27 : Array CpInfo := pool [(1, .class_ 2), (0, u "java/lang/Math"), (1, .class_ 6), (1, u "java/lang/Object"), (0, u "<init>"), (0, u "()V"), (89, .class_ 100), (1, u "java/lang/Math$RandomNumberGeneratorHolder"), (71, u "negativeZeroFloatBits"), (0, u "J"), (2, u "negativeZeroDoubleBits"), (21, u "max"), (2, u "min"), (43, u "$assertionsDisabled"), (0, u "Z"), (88, u "(II)I"), (2, u "twoToTheDoubleScaleDown"), (0, u "D"), (4, u "twoToTheDoubleScaleUp"), (9, u "E"), (3, u "PI"), (2, u "TAU"), (2, u "DEGREES_TO_RADIANS"), (0, u "RADIANS_TO_DEGREES")] 94

def k27m0 : Method := { name := "<init>", desc := "()V", sig := { parameters := [], returnType := none }, accessFlags := 2, code := none }
def k27c1 : Code := { maxStack := 2, maxLocals := 2, code := jdk_29_method_65_code, exceptionTable := #[], attributes := #[] }
def k27m1 : Method := { name := "max", desc := "(II)I", sig := { parameters := [.int, .int], returnType := some .int }, accessFlags := 9, code := some k27c1 }
def k27c2 : Code := { maxStack := 2, maxLocals := 2, code := jdk_29_method_69_code, exceptionTable := #[], attributes := #[] }
def k27m2 : Method := { name := "min", desc := "(II)I", sig := { parameters := [.int, .int], returnType := some .int }, accessFlags := 9, code := some k27c2 }
/-- java/lang/Math -/
def k27 : Class := { plain "java/lang/Math" (some 0) with
  accessFlags := 49
  interfaces := #[]
  cf := some (fileOf pool27 1 #[.nestMembers #[98]] #[{ accessFlags := 2, nameIndex := 7, descriptorIndex := 8, attributes := #[] }, { accessFlags := 9, nameIndex := 198, descriptorIndex := 335, attributes := #[] }, { accessFlags := 9, nameIndex := 201, descriptorIndex := 335, attributes := #[] }] 49 4 #[] #[{ accessFlags := 25, nameIndex := 354, descriptorIndex := 339, attributes := #[] }, { accessFlags := 25, nameIndex := 358, descriptorIndex := 339, attributes := #[] }, { accessFlags := 25, nameIndex := 361, descriptorIndex := 339, attributes := #[] }, { accessFlags := 26, nameIndex := 364, descriptorIndex := 339, attributes := #[] }, { accessFlags := 26, nameIndex := 365, descriptorIndex := 339, attributes := #[] }, { accessFlags := 26, nameIndex := 172, descriptorIndex := 173, attributes := #[] }, { accessFlags := 26, nameIndex := 176, descriptorIndex := 173, attributes := #[] }, { accessFlags := 8, nameIndex := 344, descriptorIndex := 339, attributes := #[] }, { accessFlags := 8, nameIndex := 338, descriptorIndex := 339, attributes := #[] }, { accessFlags := 4120, nameIndex := 245, descriptorIndex := 246, attributes := #[] }])
  fields := #[{ name := "E", type := .double, accessFlags := 25, slot := 0, constantValue := 0 }, { name := "PI", type := .double, accessFlags := 25, slot := 1, constantValue := 0 }, { name := "TAU", type := .double, accessFlags := 25, slot := 2, constantValue := 0 }, { name := "DEGREES_TO_RADIANS", type := .double, accessFlags := 26, slot := 3, constantValue := 0 }, { name := "RADIANS_TO_DEGREES", type := .double, accessFlags := 26, slot := 4, constantValue := 0 }, { name := "negativeZeroFloatBits", type := .long, accessFlags := 26, slot := 5, constantValue := 0 }, { name := "negativeZeroDoubleBits", type := .long, accessFlags := 26, slot := 6, constantValue := 0 }, { name := "twoToTheDoubleScaleUp", type := .double, accessFlags := 8, slot := 7, constantValue := 0 }, { name := "twoToTheDoubleScaleDown", type := .double, accessFlags := 8, slot := 8, constantValue := 0 }, { name := "$assertionsDisabled", type := .boolean, accessFlags := 4120, slot := 9, constantValue := 0 }]
  methods := #[k27m0, k27m1, k27m2]
  instanceTypes := #[]
  staticTypes := #[.double, .double, .double, .double, .double, .long, .long, .double, .double, .boolean]
  resolved := Array.replicate 460 none
  statics := none }

def pool28 : Array CpInfo := pool [(2, .class_ 4), (1, u "java/lang/Object"), (0, u "<init>"), (0, u "()V"), (7, .class_ 16), (1, u "java/util/Arrays"), (57, .class_ 76), (1, u "java/util/Arrays$NaturalOrder"), (9, .methodref 2 87), (0, .nameAndType 88 89), (0, u "getClass"), (0, u "()Ljava/lang/Class;"), (20, .class_ 111), (0, u "[Ljava/lang/Object;"), (1, .class_ 115), (1, u "java/util/Arrays$LegacyMergeSort"), (1, u "Z"), (32, .methodref 151 152), (0, .class_ 153), (0, .nameAndType 154 155), (0, u "java/lang/System"), (0, u "arraycopy"), (0, u "(Ljava/lang/Object;ILjava/lang/Object;II)V"), (144, .methodref 14 301), (0, .nameAndType 302 303), (0, u "copyOf"), (0, u "([Ljava/lang/Object;ILjava/lang/Class;)[Ljava/lang/Object;"), (0, .methodref 305 306), (0, .class_ 307), (0, .nameAndType 308 309), (0, u "java/lang/Math"), (0, u "min"), (0, u "(II)I"), (65, .class_ 376), (0, u "java/util/Arrays$ArrayList"), (68, u "$assertionsDisabled"), (269, u "MIN_ARRAY_SORT_GRAN"), (0, u "I"), (2, u "INSERTIONSORT_THRESHOLD"), (140, u "([Ljava/lang/Object;I)[Ljava/lang/Object;"), (114, .class_ 976), (0, u "java/util/Arrays$ArrayItr")] 52

def k28m0 : Method := { name := "<init>", desc := "()V", sig := { parameters := [], returnType := none }, accessFlags := 2, code := none }
def k28c1 : Code := { maxStack := 3, maxLocals := 2, code := jdk_65_method_119_code, exceptionTable := #[], attributes := #[] }
def k28m1 : Method := { name := "copyOf", desc := "([Ljava/lang/Object;I)[Ljava/lang/Object;", sig := { parameters := [(.array (.object "java/lang/Object")), .int], returnType := some (.array (.object "java/lang/Object")) }, accessFlags := 9, code := some k28c1 }
def k28c2 : Code := { maxStack := 6, maxLocals := 4, code := jdk_65_method_120_code, exceptionTable := #[], attributes := #[] }
def k28m2 : Method := { name := "copyOf", desc := "([Ljava/lang/Object;ILjava/lang/Class;)[Ljava/lang/Object;", sig := { parameters := [(.array (.object "java/lang/Object")), .int, (.object "java/lang/Class")], returnType := some (.array (.object "java/lang/Object")) }, accessFlags := 9, code := some k28c2 }
/-- java/util/Arrays -/
def k28 : Class := { plain "java/util/Arrays" (some 0) with
  accessFlags := 49
  interfaces := #[]
  cf := some (fileOf pool28 14 #[.nestMembers #[975, 375, 113, 74]] #[{ accessFlags := 2, nameIndex := 5, descriptorIndex := 6, attributes := #[] }, { accessFlags := 9, nameIndex := 302, descriptorIndex := 860, attributes := #[] }, { accessFlags := 9, nameIndex := 302, descriptorIndex := 303, attributes := #[] }] 49 2 #[] #[{ accessFlags := 26, nameIndex := 715, descriptorIndex := 716, attributes := #[] }, { accessFlags := 26, nameIndex := 719, descriptorIndex := 716, attributes := #[] }, { accessFlags := 4120, nameIndex := 445, descriptorIndex := 117, attributes := #[] }])
  fields := #[{ name := "MIN_ARRAY_SORT_GRAN", type := .int, accessFlags := 26, slot := 0, constantValue := 0 }, { name := "INSERTIONSORT_THRESHOLD", type := .int, accessFlags := 26, slot := 1, constantValue := 0 }, { name := "$assertionsDisabled", type := .boolean, accessFlags := 4120, slot := 2, constantValue := 0 }]
  methods := #[k28m0, k28m1, k28m2]
  instanceTypes := #[]
  staticTypes := #[.int, .int, .boolean]
  resolved := Array.replicate 1029 none
  statics := none }

def pool29 : Array CpInfo := pool [(2, .class_ 4), (1, u "java/lang/Object"), (0, u "<init>"), (0, u "()V"), (1, .class_ 10), (1, u "java/lang/System"), (0, u "allowSecurityManager"), (0, u "I"), (16, u "cons"), (0, u "Ljava/io/Console;"), (77, .class_ 110), (1, u "java/lang/System$CallersHolder"), (43, u "initialErrStream"), (0, u "Ljava/io/PrintStream;"), (19, u "security"), (0, u "Ljava/lang/SecurityManager;"), (31, .class_ 209), (0, u "java/lang/System$1"), (7, u "props"), (0, u "Ljava/util/Properties;"), (2, u "lineSeparator"), (0, u "Ljava/lang/String;"), (96, .class_ 321), (1, u "java/lang/System$LoggerFinder"), (5, .class_ 328), (0, u "java/lang/System$Logger"), (67, u "err"), (2, u "out"), (91, u "notSupportedJnuEncoding"), (15, u "in"), (17, u "initialIn"), (0, u "Ljava/io/InputStream;"), (35, u "bootLayer"), (0, u "Ljava/lang/ModuleLayer;"), (99, .class_ 664), (0, u "java/lang/System$2"), (9, u "NEVER"), (2, u "MAYBE"), (49, u "arraycopy"), (0, u "(Ljava/lang/Object;ILjava/lang/Object;II)V"), (72, .class_ 802), (0, u "java/lang/System$Logger$Level")] 31

def k29m0 : Method := { name := "<init>", desc := "()V", sig := { parameters := [], returnType := none }, accessFlags := 2, code := none }
def k29m1 : Method := { name := "arraycopy", desc := "(Ljava/lang/Object;ILjava/lang/Object;II)V", sig := { parameters := [(.object "java/lang/Object"), .int, (.object "java/lang/Object"), .int, .int], returnType := none }, accessFlags := 265, code := none }
/-- java/lang/System -/
def k29 : Class := { plain "java/lang/System" (some 0) with
  accessFlags := 49
  interfaces := #[]
  cf := some (fileOf pool29 8 #[.nestMembers #[319, 327, 801, 108, 663, 208]] #[{ accessFlags := 2, nameIndex := 5, descriptorIndex := 6, attributes := #[] }, { accessFlags := 265, nameIndex := 727, descriptorIndex := 728, attributes := #[] }] 49 2 #[] #[{ accessFlags := 25, nameIndex := 507, descriptorIndex := 526, attributes := #[] }, { accessFlags := 25, nameIndex := 399, descriptorIndex := 155, attributes := #[] }, { accessFlags := 25, nameIndex := 396, descriptorIndex := 155, attributes := #[] }, { accessFlags := 10, nameIndex := 525, descriptorIndex := 526, attributes := #[] }, { accessFlags := 26, nameIndex := 674, descriptorIndex := 12, attributes := #[] }, { accessFlags := 26, nameIndex := 677, descriptorIndex := 12, attributes := #[] }, { accessFlags := 10, nameIndex := 11, descriptorIndex := 12, attributes := #[] }, { accessFlags := 74, nameIndex := 175, descriptorIndex := 176, attributes := #[] }, { accessFlags := 10, nameIndex := 491, descriptorIndex := 222, attributes := #[] }, { accessFlags := 74, nameIndex := 29, descriptorIndex := 30, attributes := #[] }, { accessFlags := 74, nameIndex := 154, descriptorIndex := 155, attributes := #[] }, { accessFlags := 10, nameIndex := 217, descriptorIndex := 218, attributes := #[] }, { accessFlags := 10, nameIndex := 221, descriptorIndex := 222, attributes := #[] }, { accessFlags := 8, nameIndex := 562, descriptorIndex := 563, attributes := #[] }])
  fields := #[{ name := "in", type := (.object "java/io/InputStream"), accessFlags := 25, slot := 0, constantValue := 0 }, { name := "out", type := (.object "java/io/PrintStream"), accessFlags := 25, slot := 1, constantValue := 0 }, { name := "err", type := (.object "java/io/PrintStream"), accessFlags := 25, slot := 2, constantValue := 0 }, { name := "initialIn", type := (.object "java/io/InputStream"), accessFlags := 10, slot := 3, constantValue := 0 }, { name := "NEVER", type := .int, accessFlags := 26, slot := 4, constantValue := 0 }, { name := "MAYBE", type := .int, accessFlags := 26, slot := 5, constantValue := 0 }, { name := "allowSecurityManager", type := .int, accessFlags := 10, slot := 6, constantValue := 0 }, { name := "security", type := (.object "java/lang/SecurityManager"), accessFlags := 74, slot := 7, constantValue := 0 }, { name := "notSupportedJnuEncoding", type := (.object "java/lang/String"), accessFlags := 10, slot := 8, constantValue := 0 }, { name := "cons", type := (.object "java/io/Console"), accessFlags := 74, slot := 9, constantValue := 0 }, { name := "initialErrStream", type := (.object "java/io/PrintStream"), accessFlags := 74, slot := 10, constantValue := 0 }, { name := "props", type := (.object "java/util/Properties"), accessFlags := 10, slot := 11, constantValue := 0 }, { name := "lineSeparator", type := (.object "java/lang/String"), accessFlags := 10, slot := 12, constantValue := 0 }, { name := "bootLayer", type := (.object "java/lang/ModuleLayer"), accessFlags := 8, slot := 13, constantValue := 0 }]
  methods := #[k29m0, k29m1]
  instanceTypes := #[]
  staticTypes := #[(.object "java/io/InputStream"), (.object "java/io/PrintStream"), (.object "java/io/PrintStream"), (.object "java/io/InputStream"), .int, .int, .int, (.object "java/lang/SecurityManager"), (.object "java/lang/String"), (.object "java/io/Console"), (.object "java/io/PrintStream"), (.object "java/util/Properties"), (.object "java/lang/String"), (.object "java/lang/ModuleLayer")]
  resolved := Array.replicate 834 none
  statics := none }

def pool30 : Array CpInfo := pool [(2, .class_ 4), (1, u "java/lang/Object"), (0, u "<init>"), (0, u "()V"), (35, .class_ 44), (1, u "java/util/Objects"), (0, u "requireNonNull"), (0, u "(Ljava/lang/Object;)Ljava/lang/Object;")] 137

def k30m0 : Method := { name := "<init>", desc := "()V", sig := { parameters := [], returnType := none }, accessFlags := 2, code := none }
def k30c1 : Code := { maxStack := 2, maxLocals := 1, code := jdk_31_method_10_code, exceptionTable := #[], attributes := #[] }
def k30m1 : Method := { name := "requireNonNull", desc := "(Ljava/lang/Object;)Ljava/lang/Object;", sig := { parameters := [(.object "java/lang/Object")], returnType := some (.object "java/lang/Object") }, accessFlags := 9, code := some k30c1 }
/-- java/util/Objects -/
def k30 : Class := { plain "java/util/Objects" (some 0) with
  accessFlags := 49
  interfaces := #[]
  cf := some (fileOf pool30 42 #[] #[{ accessFlags := 2, nameIndex := 5, descriptorIndex := 6, attributes := #[] }, { accessFlags := 9, nameIndex := 45, descriptorIndex := 46, attributes := #[] }] 49 2 #[] #[])
  fields := #[]
  methods := #[k30m0, k30m1]
  instanceTypes := #[]
  staticTypes := #[]
  resolved := Array.replicate 184 none
  statics := none }

def pool31 : Array CpInfo := pool [(4, .class_ 6), (1, u "java/lang/Object"), (0, u "<init>"), (0, u "()V"), (5, .class_ 16), (1, u "java/lang/StringLatin1"), (104, u "$assertionsDisabled"), (0, u "Z"), (98, .class_ 223), (1, u "java/lang/StringLatin1$LinesSpliterator"), (166, .class_ 391), (0, u "java/lang/StringLatin1$CharsSpliterator")] 3

def k31m0 : Method := { name := "<init>", desc := "()V", sig := { parameters := [], returnType := none }, accessFlags := 0, code := none }
/-- java/lang/StringLatin1 -/
def k31 : Class := { plain "java/lang/StringLatin1" (some 0) with
  accessFlags := 48
  interfaces := #[]
  cf := some (fileOf pool31 14 #[.nestMembers #[390, 221]] #[{ accessFlags := 0, nameIndex := 7, descriptorIndex := 8, attributes := #[] }] 48 4 #[] #[{ accessFlags := 4120, nameIndex := 121, descriptorIndex := 122, attributes := #[] }])
  fields := #[{ name := "$assertionsDisabled", type := .boolean, accessFlags := 4120, slot := 0, constantValue := 0 }]
  methods := #[k31m0]
  instanceTypes := #[]
  staticTypes := #[.boolean]
  resolved := Array.replicate 395 none
  statics := none }

def pool32 : Array CpInfo := pool [(2, .class_ 4), (1, u "java/lang/Object"), (0, u "<init>"), (0, u "()V"), (17, .class_ 26), (1, u "jdk/internal/util/Preconditions"), (28, .class_ 56), (0, u "jdk/internal/util/Preconditions$4"), (57, .class_ 115), (0, u "jdk/internal/util/Preconditions$1"), (7, u "SIOOBE_FORMATTER"), (0, u "Ljava/util/function/BiFunction;"), (0, .class_ 126), (0, u "jdk/internal/util/Preconditions$2"), (3, u "AIOOBE_FORMATTER"), (0, .class_ 132), (0, u "jdk/internal/util/Preconditions$3"), (3, u "IOOBE_FORMATTER")] 57

def k32m0 : Method := { name := "<init>", desc := "()V", sig := { parameters := [], returnType := none }, accessFlags := 1, code := none }
/-- jdk/internal/util/Preconditions -/
def k32 : Class := { plain "jdk/internal/util/Preconditions" (some 0) with
  accessFlags := 33
  interfaces := #[]
  cf := some (fileOf pool32 24 #[.nestMembers #[55, 131, 125, 114]] #[{ accessFlags := 1, nameIndex := 5, descriptorIndex := 6, attributes := #[] }] 33 2 #[] #[{ accessFlags := 25, nameIndex := 123, descriptorIndex := 124, attributes := #[] }, { accessFlags := 25, nameIndex := 130, descriptorIndex := 124, attributes := #[] }, { accessFlags := 25, nameIndex := 136, descriptorIndex := 124, attributes := #[] }])
  fields := #[{ name := "SIOOBE_FORMATTER", type := (.object "java/util/function/BiFunction"), accessFlags := 25, slot := 0, constantValue := 0 }, { name := "AIOOBE_FORMATTER", type := (.object "java/util/function/BiFunction"), accessFlags := 25, slot := 1, constantValue := 0 }, { name := "IOOBE_FORMATTER", type := (.object "java/util/function/BiFunction"), accessFlags := 25, slot := 2, constantValue := 0 }]
  methods := #[k32m0]
  instanceTypes := #[]
  staticTypes := #[(.object "java/util/function/BiFunction"), (.object "java/util/function/BiFunction"), (.object "java/util/function/BiFunction")]
  resolved := Array.replicate 194 none
  statics := some 3 }

def pool33 : Array CpInfo := pool [(9, u "<init>"), (6, .class_ 18), (1, u "java/lang/Object"), (0, u "()V"), (1, .class_ 23), (1, u "jdk/internal/util/ArraysSupport"), (0, u "LOG2_ARRAY_LONG_INDEX_SCALE"), (0, u "I"), (2, u "U"), (0, u "Ljdk/internal/misc/Unsafe;"), (8, u "BIG_ENDIAN"), (0, u "Z"), (8, u "LOG2_BYTE_BIT_SIZE"), (4, u "LOG2_ARRAY_INT_INDEX_SCALE"), (54, u "JLA"), (0, u "Ljdk/internal/access/JavaLangAccess;"), (11, u "LOG2_ARRAY_BOOLEAN_INDEX_SCALE"), (9, u "LOG2_ARRAY_BYTE_INDEX_SCALE"), (5, u "LOG2_ARRAY_CHAR_INDEX_SCALE"), (5, u "LOG2_ARRAY_SHORT_INDEX_SCALE"), (18, u "LOG2_ARRAY_FLOAT_INDEX_SCALE"), (24, u "LOG2_ARRAY_DOUBLE_INDEX_SCALE"), (89, u "T_BOOLEAN"), (2, u "T_CHAR"), (1, u "T_FLOAT"), (1, u "T_DOUBLE"), (1, u "T_BYTE"), (1, u "T_SHORT"), (1, u "T_INT"), (1, u "T_LONG"), (1, u "SOFT_MAX_ARRAY_LENGTH")] 83

def k33m0 : Method := { name := "<init>", desc := "()V", sig := { parameters := [], returnType := none }, accessFlags := 2, code := none }
/-- jdk/internal/util/ArraysSupport -/
def k33 : Class := { plain "jdk/internal/util/ArraysSupport" (some 0) with
  accessFlags := 33
  interfaces := #[]
  cf := some (fileOf pool33 21 #[] #[{ accessFlags := 2, nameIndex := 9, descriptorIndex := 19, attributes := #[] }] 33 16 #[] #[{ accessFlags := 24, nameIndex := 28, descriptorIndex := 29, attributes := #[] }, { accessFlags := 26, nameIndex := 38, descriptorIndex := 39, attributes := #[] }, { accessFlags := 25, nameIndex := 121, descriptorIndex := 25, attributes := #[] }, { accessFlags := 25, nameIndex := 131, descriptorIndex := 25, attributes := #[] }, { accessFlags := 25, nameIndex := 137, descriptorIndex := 25, attributes := #[] }, { accessFlags := 25, nameIndex := 143, descriptorIndex := 25, attributes := #[] }, { accessFlags := 25, nameIndex := 53, descriptorIndex := 25, attributes := #[] }, { accessFlags := 25, nameIndex := 24, descriptorIndex := 25, attributes := #[] }, { accessFlags := 25, nameIndex := 162, descriptorIndex := 25, attributes := #[] }, { accessFlags := 25, nameIndex := 187, descriptorIndex := 25, attributes := #[] }, { accessFlags := 26, nameIndex := 48, descriptorIndex := 25, attributes := #[] }, { accessFlags := 25, nameIndex := 277, descriptorIndex := 25, attributes := #[] }, { accessFlags := 25, nameIndex := 280, descriptorIndex := 25, attributes := #[] }, { accessFlags := 25, nameIndex := 282, descriptorIndex := 25, attributes := #[] }, { accessFlags := 25, nameIndex := 284, descriptorIndex := 25, attributes := #[] }, { accessFlags := 25, nameIndex := 286, descriptorIndex := 25, attributes := #[] }, { accessFlags := 25, nameIndex := 288, descriptorIndex := 25, attributes := #[] }, { accessFlags := 25, nameIndex := 290, descriptorIndex := 25, attributes := #[] }, { accessFlags := 25, nameIndex := 292, descriptorIndex := 25, attributes := #[] }, { accessFlags := 26, nameIndex := 108, descriptorIndex := 109, attributes := #[] }, { accessFlags := 25, nameIndex := 294, descriptorIndex := 25, attributes := #[] }])
  fields := #[{ name := "U", type := (.object "jdk/internal/misc/Unsafe"), accessFlags := 24, slot := 0, constantValue := 0 }, { name := "BIG_ENDIAN", type := .boolean, accessFlags := 26, slot := 1, constantValue := 0 }, { name := "LOG2_ARRAY_BOOLEAN_INDEX_SCALE", type := .int, accessFlags := 25, slot := 2, constantValue := 0 }, { name := "LOG2_ARRAY_BYTE_INDEX_SCALE", type := .int, accessFlags := 25, slot := 3, constantValue := 0 }, { name := "LOG2_ARRAY_CHAR_INDEX_SCALE", type := .int, accessFlags := 25, slot := 4, constantValue := 0 }, { name := "LOG2_ARRAY_SHORT_INDEX_SCALE", type := .int, accessFlags := 25, slot := 5, constantValue := 0 }, { name := "LOG2_ARRAY_INT_INDEX_SCALE", type := .int, accessFlags := 25, slot := 6, constantValue := 0 }, { name := "LOG2_ARRAY_LONG_INDEX_SCALE", type := .int, accessFlags := 25, slot := 7, constantValue := 0 }, { name := "LOG2_ARRAY_FLOAT_INDEX_SCALE", type := .int, accessFlags := 25, slot := 8, constantValue := 0 }, { name := "LOG2_ARRAY_DOUBLE_INDEX_SCALE", type := .int, accessFlags := 25, slot := 9, constantValue := 0 }, { name := "LOG2_BYTE_BIT_SIZE", type := .int, accessFlags := 26, slot := 10, constantValue := 0 }, { name := "T_BOOLEAN", type := .int, accessFlags := 25, slot := 11, constantValue := 0 }, { name := "T_CHAR", type := .int, accessFlags := 25, slot := 12, constantValue := 0 }, { name := "T_FLOAT", type := .int, accessFlags := 25, slot := 13, constantValue := 0 }, { name := "T_DOUBLE", type := .int, accessFlags := 25, slot := 14, constantValue := 0 }, { name := "T_BYTE", type := .int, accessFlags := 25, slot := 15, constantValue := 0 }, { name := "T_SHORT", type := .int, accessFlags := 25, slot := 16, constantValue := 0 }, { name := "T_INT", type := .int, accessFlags := 25, slot := 17, constantValue := 0 }, { name := "T_LONG", type := .int, accessFlags := 25, slot := 18, constantValue := 0 }, { name := "JLA", type := (.object "jdk/internal/access/JavaLangAccess"), accessFlags := 26, slot := 19, constantValue := 0 }, { name := "SOFT_MAX_ARRAY_LENGTH", type := .int, accessFlags := 25, slot := 20, constantValue := 0 }]
  methods := #[k33m0]
  instanceTypes := #[]
  staticTypes := #[(.object "jdk/internal/misc/Unsafe"), .boolean, .int, .int, .int, .int, .int, .int, .int, .int, .int, .int, .int, .int, .int, .int, .int, .int, .int, (.object "jdk/internal/access/JavaLangAccess"), .int]
  resolved := Array.replicate 378 none
  statics := none }

def pool34 : Array CpInfo := pool [(1, u "java/lang/Class"), (0, .class_ 1), (0, u "java/lang/Object"), (0, .class_ 3)] 0

/-- java/lang/Class -/
def k34 : Class := { plain "java/lang/Class" (some 0) with
  accessFlags := 49
  interfaces := #[]
  cf := some (fileOf pool34 2 #[] #[] 49 4 #[] #[])
  fields := #[]
  methods := #[]
  instanceTypes := #[]
  staticTypes := #[]
  resolved := Array.replicate 5 none
  statics := none }

/-- the primitive byte -/
def k35 : Class := { plain "byte" none with kind := .primitive 'B', accessFlags := 0x411 }
/-- [B -/
def k36 : Class := { plain "[B" (some 0) with kind := .array 35 .byte, interfaces := #[18, 2], accessFlags := 1041 }

/-- the primitive char -/
def k37 : Class := { plain "char" none with kind := .primitive 'C', accessFlags := 0x411 }
/-- [C -/
def k38 : Class := { plain "[C" (some 0) with kind := .array 37 .char, interfaces := #[18, 2], accessFlags := 1041 }

/-- the primitive int -/
def k39 : Class := { plain "int" none with kind := .primitive 'I', accessFlags := 0x411 }
/-- [I -/
def k40 : Class := { plain "[I" (some 0) with kind := .array 39 .int, interfaces := #[18, 2], accessFlags := 1041 }

/-- [Ljava/lang/Object; -/
def k41 : Class := { plain "[Ljava/lang/Object;" (some 0) with kind := .array 0 (.object "java/lang/Object"), interfaces := #[18, 2], accessFlags := 1041, mirror := some 4 }

def heap : Heap := #[{ cls := 7, slots := #[.long 0, .int 1, .null, .int 0, .null, .int 0, .int 0], vm := .statics 7 },
  { cls := 19, slots := #[.long 0, .int 0, .ref 7, .ref 8], vm := .statics 19 },
  { cls := 21, slots := #[.long 0, .int 0, .null, .ref 9, .ref 6, .null, .null, .null, .int 0, .int 1], vm := .statics 21 },
  { cls := 32, slots := #[.null, .null, .null], vm := .statics 32 },
  { cls := 34, slots := #[], vm := .mirror 41 },
  { cls := 41, slots := #[], vm := .none },
  { cls := 25, slots := #[.ref 5, .int 0], vm := .none },
  { cls := 41, slots := #[], vm := .none },
  { cls := 41, slots := #[], vm := .none },
  { cls := 0, slots := #[], vm := .none }]
def classes : Array Class := #[k0, k1, k2, k3, k4, k5, k6, k7, k8, k9, k10, k11, k12, k13, k14, k15, k16, k17, k18, k19, k20, k21, k22, k23, k24, k25, k26, k27, k28, k29, k30, k31, k32, k33, k34, k35, k36, k37, k38, k39, k40, k41]
def interned : List (Array UInt16 × Addr) := []
def slotsUsed : Nat := 26
def theMethod : MethodId := ⟨1, 1⟩
def args0 : Array Value := #[.int 1, .int 2, .int 3, .int 97, .int 98, .int 9]
def aboutOver (below : List Frame) : State where
  vm := { classes := classes, interned := interned.toArray }
  heap := heap
  slotsUsed := slotsUsed
  threads := #[{ frames := .invoking theMethod args0 :: below }]
def below0 : List Frame := [.native { method := ⟨0, 0⟩, args := #[] }]
def about1 : State := aboutOver below0
def p0 : Program := .bare "" "" ""
def e0 : Env := launch0.env 0 0 0
theorem w_frames : about1.frames = Frame.invoking theMethod args0 :: below0 := rfl
set_option maxRecDepth 65536 in
theorem w_args : argsFit about1.vm theMethod args0 = true := by decide +kernel
set_option maxRecDepth 65536 in
theorem w_heap : heapFits about1 = true := by decide +kernel
set_option maxRecDepth 65536 in
theorem w_runnable : about1.curStatus? = some .runnable := by decide +kernel
set_option maxRecDepth 65536 in
theorem w_alone : about1.alone = true := by decide +kernel
set_option maxRecDepth 65536 in
theorem w_named : about1.methodNamed? x = some theMethod := by decide +kernel
set_option maxRecDepth 65536 in
theorem w_hears : about1.hears theMethod below0 = true := by decide +kernel
set_option maxRecDepth 65536 in
theorem w_ripe : about1.ripe theMethod args0 below0 = true := by decide +kernel
theorem w_running : about1.status = .running := rfl
set_option maxRecDepth 65536 in
theorem w_room : about1.hasRoom e0.platform room_1 = true :=
  launch0.hasRoom_least _ room_1 (by decide +kernel) (by decide +kernel) (by decide +kernel) (by decide +kernel) (by decide +kernel) (by decide +kernel)
theorem allAtoms_all (ts : List Jvm.Cond) (a : Array Jvm.Value) (st : Jvm.State) : (allAtoms ts).before a st = ts.all (fun c => c.before a st) := by
  induction ts with
  | nil => rfl
  | cons c t ih =>
    show (Jvm.Cond.and c (allAtoms t)).before a st = _
    rw [Jvm.Cond.before_and, ih, List.all_cons]
def words1 : List Jvm.Cond := Jvm.Cond.code x code maxLocals ret :: tables_1
/-- a 'code' word, met by the world's own term for the bytes: nothing is compared byte by byte -/
theorem code_word {y : MethodName} {bytes : ByteArray} {mx : Nat} {rt : Option FieldType} {a : Array Value} {s : State} {m : MethodId} {meth : Method} {c : Code} (h1 : s.methodNamed? y = some m) (h2 : s.vm.method? m = some meth) (h3 : meth.code = some c) (h4 : c.code = bytes)
    (h5 : (c.maxLocals == mx && c.exceptionTable.isEmpty && decide (c.maxStack ≤ mostOperands) && decide (meth.sig.returnType = rt) && !meth.locks && decide (parseMethodDescriptor y.desc = some meth.sig)) = true) : (Jvm.Cond.code y bytes mx rt).before a s = true := by
  simp only [Bool.and_eq_true, beq_iff_eq, Bool.not_eq_true', decide_eq_true_eq] at h5
  obtain ⟨⟨⟨⟨⟨g1, g2⟩, g3⟩, g4⟩, g5⟩, g6⟩ := h5
  simp [Cond.before, Cond.holds, Cond.value, h1, h2, h3, h4, g1, g2, g3, g4, g5, g6]
def isCode : Jvm.Cond → Bool
  | .code _ _ _ _ => true
  | _ => false
theorem all_split {L : List Jvm.Cond} {P : Jvm.Cond → Bool} (h1 : L.all (fun c => isCode c || P c) = true) (h2 : ∀ c ∈ L.filter isCode, P c = true) : L.all P = true := by
  refine List.all_eq_true.mpr fun c hc => ?_
  have h := List.all_eq_true.mp h1 c hc
  rcases Bool.eq_false_or_eq_true (isCode c) with hi | hi
  · exact h2 c (List.mem_filter.mpr ⟨hc, hi⟩)
  · simpa [hi] using h
set_option maxRecDepth 65536 in
theorem w_c0 : (Jvm.Cond.code x code maxLocals ret).before args0 about1 = true := code_word (m := ⟨1, 1⟩) (meth := k1m1) (c := k1c1) (by decide +kernel) rfl rfl rfl (by decide +kernel)
set_option maxRecDepth 65536 in
theorem w_c1 : (Jvm.Cond.code ({ cls := "java/lang/String", name := "<init>", desc := "([C)V" } : Jvm.MethodName) jdk_42_method_3_code (2 : Nat) (Option.none : Option Jvm.ClassFile.FieldType)).before args0 about1 = true := code_word (m := ⟨7, 1⟩) (meth := k7m1) (c := k7c1) (by decide +kernel) rfl rfl rfl (by decide +kernel)
set_option maxRecDepth 65536 in
theorem w_c2 : (Jvm.Cond.code ({ cls := "java/lang/String", name := "<init>", desc := "([CIILjava/lang/Void;)V" } : Jvm.MethodName) jdk_42_method_149_code (6 : Nat) (Option.none : Option Jvm.ClassFile.FieldType)).before args0 about1 = true := code_word (m := ⟨7, 2⟩) (meth := k7m2) (c := k7c2) (by decide +kernel) rfl rfl rfl (by decide +kernel)
set_option maxRecDepth 65536 in
theorem w_c3 : (Jvm.Cond.code ({ cls := "java/lang/Object", name := "<init>", desc := "()V" } : Jvm.MethodName) object_method_1_code (1 : Nat) (Option.none : Option Jvm.ClassFile.FieldType)).before args0 about1 = true := code_word (m := ⟨0, 0⟩) (meth := k0m0) (c := k0c0) (by decide +kernel) rfl rfl rfl (by decide +kernel)
set_option maxRecDepth 65536 in
theorem w_c4 : (Jvm.Cond.code ({ cls := "java/lang/StringUTF16", name := "compress", desc := "([CII)[B" } : Jvm.MethodName) jdk_52_method_16_code (6 : Nat) (Option.some (Jvm.ClassFile.FieldType.array Jvm.ClassFile.FieldType.byte))).before args0 about1 = true := code_word (m := ⟨8, 2⟩) (meth := k8m2) (c := k8c2) (by decide +kernel) rfl rfl rfl (by decide +kernel)
set_option maxRecDepth 65536 in
theorem w_c5 : (Jvm.Cond.code ({ cls := "java/lang/StringUTF16", name := "compress", desc := "([CI[BII)I" } : Jvm.MethodName) jdk_52_method_21_code (7 : Nat) (Option.some Jvm.ClassFile.FieldType.int)).before args0 about1 = true := code_word (m := ⟨8, 3⟩) (meth := k8m3) (c := k8c3) (by decide +kernel) rfl rfl rfl (by decide +kernel)
set_option maxRecDepth 65536 in
theorem w_c6 : (Jvm.Cond.code ({ cls := "java/lang/StringUTF16", name := "coderFromArrayLen", desc := "([BI)B" } : Jvm.MethodName) jdk_52_method_15_code (2 : Nat) (Option.some Jvm.ClassFile.FieldType.byte)).before args0 about1 = true := code_word (m := ⟨8, 1⟩) (meth := k8m1) (c := k8c1) (by decide +kernel) rfl rfl rfl (by decide +kernel)
set_option maxRecDepth 65536 in
theorem w_c7 : (Jvm.Cond.code ({ cls := "com/example/quaymark/quaymark/Review$LeftOut", name := "<init>", desc := "(ILjava/lang/String;Ljava/lang/String;)V" } : Jvm.MethodName) prog_24_method_1_code (4 : Nat) (Option.none : Option Jvm.ClassFile.FieldType)).before args0 about1 = true := code_word (m := ⟨10, 0⟩) (meth := k10m0) (c := k10c0) (by decide +kernel) rfl rfl rfl (by decide +kernel)
set_option maxRecDepth 65536 in
theorem w_c8 : (Jvm.Cond.code ({ cls := "java/lang/Record", name := "<init>", desc := "()V" } : Jvm.MethodName) jdk_30_method_1_code (1 : Nat) (Option.none : Option Jvm.ClassFile.FieldType)).before args0 about1 = true := code_word (m := ⟨9, 0⟩) (meth := k9m0) (c := k9c0) (by decide +kernel) rfl rfl rfl (by decide +kernel)
set_option maxRecDepth 65536 in
theorem w_c9 : (Jvm.Cond.code ({ cls := "java/util/ArrayList", name := "<init>", desc := "()V" } : Jvm.MethodName) jdk_38_method_2_code (1 : Nat) (Option.none : Option Jvm.ClassFile.FieldType)).before args0 about1 = true := code_word (m := ⟨19, 0⟩) (meth := k19m0) (c := k19c0) (by decide +kernel) rfl rfl rfl (by decide +kernel)
set_option maxRecDepth 65536 in
theorem w_c10 : (Jvm.Cond.code ({ cls := "java/util/AbstractList", name := "<init>", desc := "()V" } : Jvm.MethodName) jdk_39_method_1_code (1 : Nat) (Option.none : Option Jvm.ClassFile.FieldType)).before args0 about1 = true := code_word (m := ⟨16, 0⟩) (meth := k16m0) (c := k16c0) (by decide +kernel) rfl rfl rfl (by decide +kernel)
set_option maxRecDepth 65536 in
theorem w_c11 : (Jvm.Cond.code ({ cls := "java/util/AbstractCollection", name := "<init>", desc := "()V" } : Jvm.MethodName) jdk_22_method_1_code (1 : Nat) (Option.none : Option Jvm.ClassFile.FieldType)).before args0 about1 = true := code_word (m := ⟨13, 0⟩) (meth := k13m0) (c := k13c0) (by decide +kernel) rfl rfl rfl (by decide +kernel)
set_option maxRecDepth 65536 in
theorem w_c12 : (Jvm.Cond.code ({ cls := "com/example/quaymark/quaymark/Review", name := "<init>", desc := "(Ljava/lang/String;Ljava/util/List;Ljava/lang/String;Lcom/example/quaymark/quaymark/Review$Withdrawal;)V" } : Jvm.MethodName) prog_23_method_1_code (5 : Nat) (Option.none : Option Jvm.ClassFile.FieldType)).before args0 about1 = true := code_word (m := ⟨20, 0⟩) (meth := k20m0) (c := k20c0) (by decide +kernel) rfl rfl rfl (by decide +kernel)
set_option maxRecDepth 65536 in
theorem w_c13 : (Jvm.Cond.code ({ cls := "java/util/List", name := "copyOf", desc := "(Ljava/util/Collection;)Ljava/util/List;" } : Jvm.MethodName) jdk_40_method_48_code (1 : Nat) (Option.some (Jvm.ClassFile.FieldType.object "java/util/List"))).before args0 about1 = true := code_word (m := ⟨15, 5⟩) (meth := k15m5) (c := k15c5) (by decide +kernel) rfl rfl rfl (by decide +kernel)
set_option maxRecDepth 65536 in
theorem w_c14 : (Jvm.Cond.code ({ cls := "java/util/ImmutableCollections", name := "listCopy", desc := "(Ljava/util/Collection;)Ljava/util/List;" } : Jvm.MethodName) jdk_56_method_3_code (2 : Nat) (Option.some (Jvm.ClassFile.FieldType.object "java/util/List"))).before args0 about1 = true := code_word (m := ⟨21, 1⟩) (meth := k21m1) (c := k21c1) (by decide +kernel) rfl rfl rfl (by decide +kernel)
set_option maxRecDepth 65536 in
theorem w_c15 : (Jvm.Cond.code ({ cls := "java/util/ArrayList", name := "isEmpty", desc := "()Z" } : Jvm.MethodName) jdk_38_method_9_code (1 : Nat) (Option.some Jvm.ClassFile.FieldType.boolean)).before args0 about1 = true := code_word (m := ⟨19, 3⟩) (meth := k19m3) (c := k19c3) (by decide +kernel) rfl rfl rfl (by decide +kernel)
set_option maxRecDepth 65536 in
theorem w_c16 : (Jvm.Cond.code ({ cls := "java/util/List", name := "of", desc := "()Ljava/util/List;" } : Jvm.MethodName) jdk_40_method_36_code (0 : Nat) (Option.some (Jvm.ClassFile.FieldType.object "java/util/List"))).before args0 about1 = true := code_word (m := ⟨15, 3⟩) (meth := k15m3) (c := k15c3) (by decide +kernel) rfl rfl rfl (by decide +kernel)
set_option maxRecDepth 65536 in
theorem w_c17 : (Jvm.Cond.code ({ cls := "com/example/quaymark/quaymark/Review", name := "withdrawing", desc := "(Lcom/example/quaymark/quaymark/Review$Withdrawal;)Lcom/example/quaymark/quaymark/Review;" } : Jvm.MethodName) prog_23_method_5_code (2 : Nat) (Option.some (Jvm.ClassFile.FieldType.object "com/example/quaymark/quaymark/Review"))).before args0 about1 = true := code_word (m := ⟨20, 1⟩) (meth := k20m1) (c := k20c1) (by decide +kernel) rfl rfl rfl (by decide +kernel)
set_option maxRecDepth 65536 in
theorem w_c18 : (Jvm.Cond.code ({ cls := "com/example/quaymark/quaymark/Review", name := "leftOut", desc := "()Ljava/util/List;" } : Jvm.MethodName) prog_23_method_13_code (1 : Nat) (Option.some (Jvm.ClassFile.FieldType.object "java/util/List"))).before args0 about1 = true := code_word (m := ⟨20, 3⟩) (meth := k20m3) (c := k20c3) (by decide +kernel) rfl rfl rfl (by decide +kernel)
set_option maxRecDepth 65536 in
theorem w_c19 : (Jvm.Cond.code ({ cls := "java/util/ImmutableCollections$ListN", name := "size", desc := "()I" } : Jvm.MethodName) jdk_45_method_3_code (1 : Nat) (Option.some Jvm.ClassFile.FieldType.int)).before args0 about1 = true := code_word (m := ⟨25, 0⟩) (meth := k25m0) (c := k25c0) (by decide +kernel) rfl rfl rfl (by decide +kernel)
set_option maxRecDepth 65536 in
theorem w_c20 : (Jvm.Cond.code ({ cls := "com/example/quaymark/quaymark/Review", name := "submittedBy", desc := "()Ljava/lang/String;" } : Jvm.MethodName) prog_23_method_12_code (1 : Nat) (Option.some (Jvm.ClassFile.FieldType.object "java/lang/String"))).before args0 about1 = true := code_word (m := ⟨20, 2⟩) (meth := k20m2) (c := k20c2) (by decide +kernel) rfl rfl rfl (by decide +kernel)
set_option maxRecDepth 65536 in
theorem w_c21 : (Jvm.Cond.code ({ cls := "com/example/quaymark/quaymark/Review", name := "signedOffBy", desc := "()Ljava/lang/String;" } : Jvm.MethodName) prog_23_method_14_code (1 : Nat) (Option.some (Jvm.ClassFile.FieldType.object "java/lang/String"))).before args0 about1 = true := code_word (m := ⟨20, 4⟩) (meth := k20m4) (c := k20c4) (by decide +kernel) rfl rfl rfl (by decide +kernel)
set_option maxRecDepth 65536 in
theorem w_c22 : (Jvm.Cond.code ({ cls := "com/example/quaymark/quaymark/Review", name := "withdrawn", desc := "()Lcom/example/quaymark/quaymark/Review$Withdrawal;" } : Jvm.MethodName) prog_23_method_15_code (1 : Nat) (Option.some (Jvm.ClassFile.FieldType.object "com/example/quaymark/quaymark/Review$Withdrawal"))).before args0 about1 = true := code_word (m := ⟨20, 5⟩) (meth := k20m5) (c := k20c5) (by decide +kernel) rfl rfl rfl (by decide +kernel)
set_option maxRecDepth 65536 in
theorem w_c23 : (Jvm.Cond.code ({ cls := "com/example/quaymark/quaymark/Review$Withdrawal", name := "<init>", desc := "(Ljava/lang/String;Ljava/lang/String;)V" } : Jvm.MethodName) prog_25_method_1_code (3 : Nat) (Option.none : Option Jvm.ClassFile.FieldType)).before args0 about1 = true := code_word (m := ⟨26, 0⟩) (meth := k26m0) (c := k26c0) (by decide +kernel) rfl rfl rfl (by decide +kernel)
set_option maxRecDepth 65536 in
theorem w_c24 : (Jvm.Cond.code ({ cls := "java/util/ArrayList", name := "add", desc := "(Ljava/lang/Object;)Z" } : Jvm.MethodName) jdk_38_method_25_code (2 : Nat) (Option.some Jvm.ClassFile.FieldType.boolean)).before args0 about1 = true := code_word (m := ⟨19, 6⟩) (meth := k19m6) (c := k19c6) (by decide +kernel) rfl rfl rfl (by decide +kernel)
set_option maxRecDepth 65536 in
theorem w_c25 : (Jvm.Cond.code ({ cls := "java/util/ArrayList", name := "add", desc := "(Ljava/lang/Object;[Ljava/lang/Object;I)V" } : Jvm.MethodName) jdk_38_method_24_code (4 : Nat) (Option.none : Option Jvm.ClassFile.FieldType)).before args0 about1 = true := code_word (m := ⟨19, 5⟩) (meth := k19m5) (c := k19c5) (by decide +kernel) rfl rfl rfl (by decide +kernel)
set_option maxRecDepth 65536 in
theorem w_c26 : (Jvm.Cond.code ({ cls := "java/util/ArrayList", name := "grow", desc := "()[Ljava/lang/Object;" } : Jvm.MethodName) jdk_38_method_7_code (1 : Nat) (Option.some (Jvm.ClassFile.FieldType.array (Jvm.ClassFile.FieldType.object "java/lang/Object")))).before args0 about1 = true := code_word (m := ⟨19, 2⟩) (meth := k19m2) (c := k19c2) (by decide +kernel) rfl rfl rfl (by decide +kernel)
set_option maxRecDepth 65536 in
theorem w_c27 : (Jvm.Cond.code ({ cls := "java/util/ArrayList", name := "grow", desc := "(I)[Ljava/lang/Object;" } : Jvm.MethodName) jdk_38_method_6_code (4 : Nat) (Option.some (Jvm.ClassFile.FieldType.array (Jvm.ClassFile.FieldType.object "java/lang/Object")))).before args0 about1 = true := code_word (m := ⟨19, 1⟩) (meth := k19m1) (c := k19c1) (by decide +kernel) rfl rfl rfl (by decide +kernel)
set_option maxRecDepth 65536 in
theorem w_c28 : (Jvm.Cond.code ({ cls := "java/lang/Math", name := "max", desc := "(II)I" } : Jvm.MethodName) jdk_29_method_65_code (2 : Nat) (Option.some Jvm.ClassFile.FieldType.int)).before args0 about1 = true := code_word (m := ⟨27, 1⟩) (meth := k27m1) (c := k27c1) (by decide +kernel) rfl rfl rfl (by decide +kernel)
set_option maxRecDepth 65536 in
theorem w_c29 : (Jvm.Cond.code ({ cls := "java/util/ArrayList", name := "toArray", desc := "()[Ljava/lang/Object;" } : Jvm.MethodName) jdk_38_method_16_code (1 : Nat) (Option.some (Jvm.ClassFile.FieldType.array (Jvm.ClassFile.FieldType.object "java/lang/Object")))).before args0 about1 = true := code_word (m := ⟨19, 4⟩) (meth := k19m4) (c := k19c4) (by decide +kernel) rfl rfl rfl (by decide +kernel)
set_option maxRecDepth 65536 in
theorem w_c30 : (Jvm.Cond.code ({ cls := "java/util/Arrays", name := "copyOf", desc := "([Ljava/lang/Object;I)[Ljava/lang/Object;" } : Jvm.MethodName) jdk_65_method_119_code (2 : Nat) (Option.some (Jvm.ClassFile.FieldType.array (Jvm.ClassFile.FieldType.object "java/lang/Object")))).before args0 about1 = true := code_word (m := ⟨28, 1⟩) (meth := k28m1) (c := k28c1) (by decide +kernel) rfl rfl rfl (by decide +kernel)
set_option maxRecDepth 65536 in
theorem w_c31 : (Jvm.Cond.code ({ cls := "java/util/Arrays", name := "copyOf", desc := "([Ljava/lang/Object;ILjava/lang/Class;)[Ljava/lang/Object;" } : Jvm.MethodName) jdk_65_method_120_code (4 : Nat) (Option.some (Jvm.ClassFile.FieldType.array (Jvm.ClassFile.FieldType.object "java/lang/Object")))).before args0 about1 = true := code_word (m := ⟨28, 2⟩) (meth := k28m2) (c := k28c2) (by decide +kernel) rfl rfl rfl (by decide +kernel)
set_option maxRecDepth 65536 in
theorem w_c32 : (Jvm.Cond.code ({ cls := "java/lang/Math", name := "min", desc := "(II)I" } : Jvm.MethodName) jdk_29_method_69_code (2 : Nat) (Option.some Jvm.ClassFile.FieldType.int)).before args0 about1 = true := code_word (m := ⟨27, 2⟩) (meth := k27m2) (c := k27c2) (by decide +kernel) rfl rfl rfl (by decide +kernel)
set_option maxRecDepth 65536 in
theorem w_c33 : (Jvm.Cond.code ({ cls := "java/util/List", name := "of", desc := "([Ljava/lang/Object;)Ljava/util/List;" } : Jvm.MethodName) jdk_40_method_47_code (2 : Nat) (Option.some (Jvm.ClassFile.FieldType.object "java/util/List"))).before args0 about1 = true := code_word (m := ⟨15, 4⟩) (meth := k15m4) (c := k15c4) (by decide +kernel) rfl rfl rfl (by decide +kernel)
set_option maxRecDepth 65536 in
theorem w_c34 : (Jvm.Cond.code ({ cls := "java/util/ImmutableCollections$List12", name := "<init>", desc := "(Ljava/lang/Object;Ljava/lang/Object;)V" } : Jvm.MethodName) jdk_44_method_2_code (3 : Nat) (Option.none : Option Jvm.ClassFile.FieldType)).before args0 about1 = true := code_word (m := ⟨24, 1⟩) (meth := k24m1) (c := k24c1) (by decide +kernel) rfl rfl rfl (by decide +kernel)
set_option maxRecDepth 65536 in
theorem w_c35 : (Jvm.Cond.code ({ cls := "java/util/ImmutableCollections$AbstractImmutableList", name := "<init>", desc := "()V" } : Jvm.MethodName) jdk_46_method_1_code (1 : Nat) (Option.none : Option Jvm.ClassFile.FieldType)).before args0 about1 = true := code_word (m := ⟨23, 0⟩) (meth := k23m0) (c := k23c0) (by decide +kernel) rfl rfl rfl (by decide +kernel)
set_option maxRecDepth 65536 in
theorem w_c36 : (Jvm.Cond.code ({ cls := "java/util/ImmutableCollections$AbstractImmutableCollection", name := "<init>", desc := "()V" } : Jvm.MethodName) jdk_47_method_1_code (1 : Nat) (Option.none : Option Jvm.ClassFile.FieldType)).before args0 about1 = true := code_word (m := ⟨22, 0⟩) (meth := k22m0) (c := k22c0) (by decide +kernel) rfl rfl rfl (by decide +kernel)
set_option maxRecDepth 65536 in
theorem w_c37 : (Jvm.Cond.code ({ cls := "java/util/Objects", name := "requireNonNull", desc := "(Ljava/lang/Object;)Ljava/lang/Object;" } : Jvm.MethodName) jdk_31_method_10_code (1 : Nat) (Option.some (Jvm.ClassFile.FieldType.object "java/lang/Object"))).before args0 about1 = true := code_word (m := ⟨30, 1⟩) (meth := k30m1) (c := k30c1) (by decide +kernel) rfl rfl rfl (by decide +kernel)
set_option maxRecDepth 65536 in
theorem w_c38 : (Jvm.Cond.code ({ cls := "java/util/ImmutableCollections$List12", name := "size", desc := "()I" } : Jvm.MethodName) jdk_44_method_3_code (1 : Nat) (Option.some Jvm.ClassFile.FieldType.int)).before args0 about1 = true := code_word (m := ⟨24, 2⟩) (meth := k24m2) (c := k24c2) (by decide +kernel) rfl rfl rfl (by decide +kernel)
set_option maxRecDepth 65536 in
theorem w_c39 : (Jvm.Cond.code ({ cls := "java/util/ImmutableCollections$List12", name := "get", desc := "(I)Ljava/lang/Object;" } : Jvm.MethodName) jdk_44_method_5_code (2 : Nat) (Option.some (Jvm.ClassFile.FieldType.object "java/lang/Object"))).before args0 about1 = true := code_word (m := ⟨24, 3⟩) (meth := k24m3) (c := k24c3) (by decide +kernel) rfl rfl rfl (by decide +kernel)
set_option maxRecDepth 65536 in
theorem w_c40 : (Jvm.Cond.code ({ cls := "java/util/ImmutableCollections$List12", name := "<init>", desc := "(Ljava/lang/Object;)V" } : Jvm.MethodName) jdk_44_method_1_code (2 : Nat) (Option.none : Option Jvm.ClassFile.FieldType)).before args0 about1 = true := code_word (m := ⟨24, 0⟩) (meth := k24m0) (c := k24c0) (by decide +kernel) rfl rfl rfl (by decide +kernel)
def codes1 : List Jvm.Cond := [Jvm.Cond.code x code maxLocals ret, Jvm.Cond.code ({ cls := "java/lang/String", name := "<init>", desc := "([C)V" } : Jvm.MethodName) jdk_42_method_3_code (2 : Nat) (Option.none : Option Jvm.ClassFile.FieldType), Jvm.Cond.code ({ cls := "java/lang/String", name := "<init>", desc := "([CIILjava/lang/Void;)V" } : Jvm.MethodName) jdk_42_method_149_code (6 : Nat) (Option.none : Option Jvm.ClassFile.FieldType), Jvm.Cond.code ({ cls := "java/lang/Object", name := "<init>", desc := "()V" } : Jvm.MethodName) object_method_1_code (1 : Nat) (Option.none : Option Jvm.ClassFile.FieldType), Jvm.Cond.code ({ cls := "java/lang/StringUTF16", name := "compress", desc := "([CII)[B" } : Jvm.MethodName) jdk_52_method_16_code (6 : Nat) (Option.some (Jvm.ClassFile.FieldType.array Jvm.ClassFile.FieldType.byte)), Jvm.Cond.code ({ cls := "java/lang/StringUTF16", name := "compress", desc := "([CI[BII)I" } : Jvm.MethodName) jdk_52_method_21_code (7 : Nat) (Option.some Jvm.ClassFile.FieldType.int), Jvm.Cond.code ({ cls := "java/lang/StringUTF16", name := "coderFromArrayLen", desc := "([BI)B" } : Jvm.MethodName) jdk_52_method_15_code (2 : Nat) (Option.some Jvm.ClassFile.FieldType.byte), Jvm.Cond.code ({ cls := "com/example/quaymark/quaymark/Review$LeftOut", name := "<init>", desc := "(ILjava/lang/String;Ljava/lang/String;)V" } : Jvm.MethodName) prog_24_method_1_code (4 : Nat) (Option.none : Option Jvm.ClassFile.FieldType), Jvm.Cond.code ({ cls := "java/lang/Record", name := "<init>", desc := "()V" } : Jvm.MethodName) jdk_30_method_1_code (1 : Nat) (Option.none : Option Jvm.ClassFile.FieldType), Jvm.Cond.code ({ cls := "java/util/ArrayList", name := "<init>", desc := "()V" } : Jvm.MethodName) jdk_38_method_2_code (1 : Nat) (Option.none : Option Jvm.ClassFile.FieldType), Jvm.Cond.code ({ cls := "java/util/AbstractList", name := "<init>", desc := "()V" } : Jvm.MethodName) jdk_39_method_1_code (1 : Nat) (Option.none : Option Jvm.ClassFile.FieldType), Jvm.Cond.code ({ cls := "java/util/AbstractCollection", name := "<init>", desc := "()V" } : Jvm.MethodName) jdk_22_method_1_code (1 : Nat) (Option.none : Option Jvm.ClassFile.FieldType), Jvm.Cond.code ({ cls := "com/example/quaymark/quaymark/Review", name := "<init>", desc := "(Ljava/lang/String;Ljava/util/List;Ljava/lang/String;Lcom/example/quaymark/quaymark/Review$Withdrawal;)V" } : Jvm.MethodName) prog_23_method_1_code (5 : Nat) (Option.none : Option Jvm.ClassFile.FieldType), Jvm.Cond.code ({ cls := "java/util/List", name := "copyOf", desc := "(Ljava/util/Collection;)Ljava/util/List;" } : Jvm.MethodName) jdk_40_method_48_code (1 : Nat) (Option.some (Jvm.ClassFile.FieldType.object "java/util/List")), Jvm.Cond.code ({ cls := "java/util/ImmutableCollections", name := "listCopy", desc := "(Ljava/util/Collection;)Ljava/util/List;" } : Jvm.MethodName) jdk_56_method_3_code (2 : Nat) (Option.some (Jvm.ClassFile.FieldType.object "java/util/List")), Jvm.Cond.code ({ cls := "java/util/ArrayList", name := "isEmpty", desc := "()Z" } : Jvm.MethodName) jdk_38_method_9_code (1 : Nat) (Option.some Jvm.ClassFile.FieldType.boolean), Jvm.Cond.code ({ cls := "java/util/List", name := "of", desc := "()Ljava/util/List;" } : Jvm.MethodName) jdk_40_method_36_code (0 : Nat) (Option.some (Jvm.ClassFile.FieldType.object "java/util/List")), Jvm.Cond.code ({ cls := "com/example/quaymark/quaymark/Review", name := "withdrawing", desc := "(Lcom/example/quaymark/quaymark/Review$Withdrawal;)Lcom/example/quaymark/quaymark/Review;" } : Jvm.MethodName) prog_23_method_5_code (2 : Nat) (Option.some (Jvm.ClassFile.FieldType.object "com/example/quaymark/quaymark/Review")), Jvm.Cond.code ({ cls := "com/example/quaymark/quaymark/Review", name := "leftOut", desc := "()Ljava/util/List;" } : Jvm.MethodName) prog_23_method_13_code (1 : Nat) (Option.some (Jvm.ClassFile.FieldType.object "java/util/List")), Jvm.Cond.code ({ cls := "java/util/ImmutableCollections$ListN", name := "size", desc := "()I" } : Jvm.MethodName) jdk_45_method_3_code (1 : Nat) (Option.some Jvm.ClassFile.FieldType.int), Jvm.Cond.code ({ cls := "com/example/quaymark/quaymark/Review", name := "submittedBy", desc := "()Ljava/lang/String;" } : Jvm.MethodName) prog_23_method_12_code (1 : Nat) (Option.some (Jvm.ClassFile.FieldType.object "java/lang/String")), Jvm.Cond.code ({ cls := "com/example/quaymark/quaymark/Review", name := "signedOffBy", desc := "()Ljava/lang/String;" } : Jvm.MethodName) prog_23_method_14_code (1 : Nat) (Option.some (Jvm.ClassFile.FieldType.object "java/lang/String")), Jvm.Cond.code ({ cls := "com/example/quaymark/quaymark/Review", name := "withdrawn", desc := "()Lcom/example/quaymark/quaymark/Review$Withdrawal;" } : Jvm.MethodName) prog_23_method_15_code (1 : Nat) (Option.some (Jvm.ClassFile.FieldType.object "com/example/quaymark/quaymark/Review$Withdrawal")), Jvm.Cond.code ({ cls := "com/example/quaymark/quaymark/Review$Withdrawal", name := "<init>", desc := "(Ljava/lang/String;Ljava/lang/String;)V" } : Jvm.MethodName) prog_25_method_1_code (3 : Nat) (Option.none : Option Jvm.ClassFile.FieldType), Jvm.Cond.code ({ cls := "java/util/ArrayList", name := "add", desc := "(Ljava/lang/Object;)Z" } : Jvm.MethodName) jdk_38_method_25_code (2 : Nat) (Option.some Jvm.ClassFile.FieldType.boolean), Jvm.Cond.code ({ cls := "java/util/ArrayList", name := "add", desc := "(Ljava/lang/Object;[Ljava/lang/Object;I)V" } : Jvm.MethodName) jdk_38_method_24_code (4 : Nat) (Option.none : Option Jvm.ClassFile.FieldType), Jvm.Cond.code ({ cls := "java/util/ArrayList", name := "grow", desc := "()[Ljava/lang/Object;" } : Jvm.MethodName) jdk_38_method_7_code (1 : Nat) (Option.some (Jvm.ClassFile.FieldType.array (Jvm.ClassFile.FieldType.object "java/lang/Object"))), Jvm.Cond.code ({ cls := "java/util/ArrayList", name := "grow", desc := "(I)[Ljava/lang/Object;" } : Jvm.MethodName) jdk_38_method_6_code (4 : Nat) (Option.some (Jvm.ClassFile.FieldType.array (Jvm.ClassFile.FieldType.object "java/lang/Object"))), Jvm.Cond.code ({ cls := "java/lang/Math", name := "max", desc := "(II)I" } : Jvm.MethodName) jdk_29_method_65_code (2 : Nat) (Option.some Jvm.ClassFile.FieldType.int), Jvm.Cond.code ({ cls := "java/util/ArrayList", name := "toArray", desc := "()[Ljava/lang/Object;" } : Jvm.MethodName) jdk_38_method_16_code (1 : Nat) (Option.some (Jvm.ClassFile.FieldType.array (Jvm.ClassFile.FieldType.object "java/lang/Object"))), Jvm.Cond.code ({ cls := "java/util/Arrays", name := "copyOf", desc := "([Ljava/lang/Object;I)[Ljava/lang/Object;" } : Jvm.MethodName) jdk_65_method_119_code (2 : Nat) (Option.some (Jvm.ClassFile.FieldType.array (Jvm.ClassFile.FieldType.object "java/lang/Object"))), Jvm.Cond.code ({ cls := "java/util/Arrays", name := "copyOf", desc := "([Ljava/lang/Object;ILjava/lang/Class;)[Ljava/lang/Object;" } : Jvm.MethodName) jdk_65_method_120_code (4 : Nat) (Option.some (Jvm.ClassFile.FieldType.array (Jvm.ClassFile.FieldType.object "java/lang/Object"))), Jvm.Cond.code ({ cls := "java/lang/Math", name := "min", desc := "(II)I" } : Jvm.MethodName) jdk_29_method_69_code (2 : Nat) (Option.some Jvm.ClassFile.FieldType.int), Jvm.Cond.code ({ cls := "java/util/List", name := "of", desc := "([Ljava/lang/Object;)Ljava/util/List;" } : Jvm.MethodName) jdk_40_method_47_code (2 : Nat) (Option.some (Jvm.ClassFile.FieldType.object "java/util/List")), Jvm.Cond.code ({ cls := "java/util/ImmutableCollections$List12", name := "<init>", desc := "(Ljava/lang/Object;Ljava/lang/Object;)V" } : Jvm.MethodName) jdk_44_method_2_code (3 : Nat) (Option.none : Option Jvm.ClassFile.FieldType), Jvm.Cond.code ({ cls := "java/util/ImmutableCollections$AbstractImmutableList", name := "<init>", desc := "()V" } : Jvm.MethodName) jdk_46_method_1_code (1 : Nat) (Option.none : Option Jvm.ClassFile.FieldType), Jvm.Cond.code ({ cls := "java/util/ImmutableCollections$AbstractImmutableCollection", name := "<init>", desc := "()V" } : Jvm.MethodName) jdk_47_method_1_code (1 : Nat) (Option.none : Option Jvm.ClassFile.FieldType), Jvm.Cond.code ({ cls := "java/util/Objects", name := "requireNonNull", desc := "(Ljava/lang/Object;)Ljava/lang/Object;" } : Jvm.MethodName) jdk_31_method_10_code (1 : Nat) (Option.some (Jvm.ClassFile.FieldType.object "java/lang/Object")), Jvm.Cond.code ({ cls := "java/util/ImmutableCollections$List12", name := "size", desc := "()I" } : Jvm.MethodName) jdk_44_method_3_code (1 : Nat) (Option.some Jvm.ClassFile.FieldType.int), Jvm.Cond.code ({ cls := "java/util/ImmutableCollections$List12", name := "get", desc := "(I)Ljava/lang/Object;" } : Jvm.MethodName) jdk_44_method_5_code (2 : Nat) (Option.some (Jvm.ClassFile.FieldType.object "java/lang/Object")), Jvm.Cond.code ({ cls := "java/util/ImmutableCollections$List12", name := "<init>", desc := "(Ljava/lang/Object;)V" } : Jvm.MethodName) jdk_44_method_1_code (2 : Nat) (Option.none : Option Jvm.ClassFile.FieldType)]
set_option maxRecDepth 65536 in
theorem codes_eq : words1.filter isCode = codes1 := rfl
theorem w_codes : ∀ c ∈ words1.filter isCode, c.before args0 about1 = true := by
  rw [codes_eq]
  intro c hc
  simp only [codes1, List.mem_cons, List.not_mem_nil, or_false] at hc
  rcases hc with rfl | rfl | rfl | rfl | rfl | rfl | rfl | rfl | rfl | rfl | rfl | rfl | rfl | rfl | rfl | rfl | rfl | rfl | rfl | rfl | rfl | rfl | rfl | rfl | rfl | rfl | rfl | rfl | rfl | rfl | rfl | rfl | rfl | rfl | rfl | rfl | rfl | rfl | rfl | rfl | rfl
  · exact w_c0
  · exact w_c1
  · exact w_c2
  · exact w_c3
  · exact w_c4
  · exact w_c5
  · exact w_c6
  · exact w_c7
  · exact w_c8
  · exact w_c9
  · exact w_c10
  · exact w_c11
  · exact w_c12
  · exact w_c13
  · exact w_c14
  · exact w_c15
  · exact w_c16
  · exact w_c17
  · exact w_c18
  · exact w_c19
  · exact w_c20
  · exact w_c21
  · exact w_c22
  · exact w_c23
  · exact w_c24
  · exact w_c25
  · exact w_c26
  · exact w_c27
  · exact w_c28
  · exact w_c29
  · exact w_c30
  · exact w_c31
  · exact w_c32
  · exact w_c33
  · exact w_c34
  · exact w_c35
  · exact w_c36
  · exact w_c37
  · exact w_c38
  · exact w_c39
  · exact w_c40
set_option maxRecDepth 65536 in
theorem w_t1 : (words1.take 24).all (fun c => isCode c || c.before args0 about1) = true := by decide +kernel
set_option maxRecDepth 65536 in
theorem w_t2 : ((words1.drop 24).take 24).all (fun c => isCode c || c.before args0 about1) = true := by decide +kernel
set_option maxRecDepth 65536 in
theorem w_t3 : (((words1.drop 24).drop 24).take 24).all (fun c => isCode c || c.before args0 about1) = true := by decide +kernel
set_option maxRecDepth 65536 in
theorem w_t4 : ((((words1.drop 24).drop 24).drop 24).take 24).all (fun c => isCode c || c.before args0 about1) = true := by decide +kernel
set_option maxRecDepth 65536 in
theorem w_t5 : (((((words1.drop 24).drop 24).drop 24).drop 24).take 24).all (fun c => isCode c || c.before args0 about1) = true := by decide +kernel
set_option maxRecDepth 65536 in
theorem w_t6 : ((((((words1.drop 24).drop 24).drop 24).drop 24).drop 24).take 24).all (fun c => isCode c || c.before args0 about1) = true := by decide +kernel
set_option maxRecDepth 65536 in
theorem w_t7 : (((((((words1.drop 24).drop 24).drop 24).drop 24).drop 24).drop 24).take 24).all (fun c => isCode c || c.before args0 about1) = true := by decide +kernel
set_option maxRecDepth 65536 in
theorem w_t8 : ((((((((words1.drop 24).drop 24).drop 24).drop 24).drop 24).drop 24).drop 24).take 24).all (fun c => isCode c || c.before args0 about1) = true := by decide +kernel
set_option maxRecDepth 65536 in
theorem w_t9 : (((((((((words1.drop 24).drop 24).drop 24).drop 24).drop 24).drop 24).drop 24).drop 24).take 24).all (fun c => isCode c || c.before args0 about1) = true := by decide +kernel
set_option maxRecDepth 65536 in
theorem w_t10 : ((((((((((words1.drop 24).drop 24).drop 24).drop 24).drop 24).drop 24).drop 24).drop 24).drop 24).take 24).all (fun c => isCode c || c.before args0 about1) = true := by decide +kernel
set_option maxRecDepth 65536 in
theorem w_t11 : (((((((((((words1.drop 24).drop 24).drop 24).drop 24).drop 24).drop 24).drop 24).drop 24).drop 24).drop 24).take 24).all (fun c => isCode c || c.before args0 about1) = true := by decide +kernel
set_option maxRecDepth 65536 in
theorem w_t12 : (((((((((((words1.drop 24).drop 24).drop 24).drop 24).drop 24).drop 24).drop 24).drop 24).drop 24).drop 24).drop 24).all (fun c => isCode c || c.before args0 about1) = true := by decide +kernel
theorem w_tables : (allAtoms (Jvm.Cond.code x code maxLocals ret :: tables_1)).before args0 about1 = true := by
  rw [allAtoms_all]
  show words1.all (fun c => c.before args0 about1) = true
  refine all_split ?_ w_codes
  rw [← List.take_append_drop 24 words1, List.all_append, w_t1, ← List.take_append_drop 24 (words1.drop 24), List.all_append, w_t2, ← List.take_append_drop 24 ((words1.drop 24).drop 24), List.all_append, w_t3, ← List.take_append_drop 24 (((words1.drop 24).drop 24).drop 24), List.all_append, w_t4, ← List.take_append_drop 24 ((((words1.drop 24).drop 24).drop 24).drop 24), List.all_append, w_t5, ← List.take_append_drop 24 (((((words1.drop 24).drop 24).drop 24).drop 24).drop 24), List.all_append, w_t6, ← List.take_append_drop 24 ((((((words1.drop 24).drop 24).drop 24).drop 24).drop 24).drop 24), List.all_append, w_t7, ← List.take_append_drop 24 (((((((words1.drop 24).drop 24).drop 24).drop 24).drop 24).drop 24).drop 24), List.all_append, w_t8, ← List.take_append_drop 24 ((((((((words1.drop 24).drop 24).drop 24).drop 24).drop 24).drop 24).drop 24).drop 24), List.all_append, w_t9, ← List.take_append_drop 24 (((((((((words1.drop 24).drop 24).drop 24).drop 24).drop 24).drop 24).drop 24).drop 24).drop 24), List.all_append, w_t10, ← List.take_append_drop 24 ((((((((((words1.drop 24).drop 24).drop 24).drop 24).drop 24).drop 24).drop 24).drop 24).drop 24).drop 24), List.all_append, w_t11, w_t12]
  rfl
set_option maxRecDepth 65536 in
theorem w_rest : rest_1_c.before args0 about1 = true := by decide +kernel
set_option maxRecDepth 65536 in
theorem w_case : (Jvm.Cond.and given_1 narrow_1).before args0 about1 = true := by decide +kernel
theorem w_applies : (headSpec (Jvm.Cond.code x code maxLocals ret :: tables_1) room_1).applies x e0.platform about1 = true :=
  (Spec.applies_iff w_frames).mpr ⟨w_running, w_runnable, w_alone, w_named, w_hears, w_ripe, w_room, w_tables⟩
theorem atStart : AtStart classFile x code maxLocals ret World_1 tables_1 room_1 Calls_1 rest_1 Pre_1 launch0 p0 e0 about1 theMethod args0 below0 :=
  ⟨lists_1, trivial, launch0.admits_env _ _ _, launch0.least_env, fairChoices_fair.cas, fairChoices_fair.clock, w_frames, w_args, w_heap, w_applies, ⟨⟨41, k41, 4, by decide +kernel, rfl, rfl, _, rfl, rfl⟩, trivial⟩, w_rest, w_case⟩
end start1
theorem witness_1 : WitnessClaimed_1 := ⟨start1.p0, start1.e0, start1.about1, start1.theMethod, start1.args0, start1.below0, start1.atStart⟩
end Jvm.Pilot.@@N@@
