import JvmDerived
import JvmDerived.Pilot.@@N@@Statement
import JvmDerived.Pilot.@@N@@Code
set_option linter.unusedVariables false
set_option linter.unusedSimpArgs false
/- laws to paste: Road.backV (cut by pick.py; bodies as the Statement names them) -/
namespace Jvm.Pilot.@@N@@
namespace StrChars
open Jvm Sem ClassFile Op Lib Jvm.Stand Jvm.Free.XT Jvm.Free.ALB Jvm.Free.JM Jvm.Free
open Jvm.Lib.Cold (StaticIs)
/-- a char array whose places are chars -/
def Ch (a : Addr) (A : Cell) (U : State) : Prop := Arr .char a A U ∧ Typed .char A
theorem Ch.mv {a : Addr} {A : Cell} {U U' : State} (h : Ch a A U) (hal : U.vm.Alike U'.vm) (hh : U'.heap = U.heap) : Ch a A U' := ⟨h.1.mv hal hh, h.2⟩
theorem Ch.keep {a : Addr} {A : Cell} {U U' : State} (h : Ch a A U) (hal : U.vm.Alike U'.vm) (hk : U'.heap[a]? = some A) : Ch a A U' := ⟨h.1.keep hal hk, h.2⟩
/-- what place i of a char[]'s cell holds -/
def cv (A : Cell) (i : Nat) : Int32 := match A.slots[i]? with | some (.int x) => x | _ => 0
theorem Ch.get {a : Addr} {A : Cell} {U : State} (h : Ch a A U) {i : Nat} (hi : i < A.slots.size) : A.slots[i]? = some (.int (cv A i)) := by
  have e := Array.getElem?_eq_getElem hi
  have f := h.2 i _ e
  unfold cv; rw [e]
  generalize A.slots[i] = v at f
  cases v <;> simp [fits] at f ⊢
/-- the byte that i2b leaves of a char -/
def lo8 (x : Int32) : Int32 := x.toInt8.toInt32
theorem fits_lo8 (y : Int32) : fits .byte (.int (lo8 y)) = true := by
  have h1 := y.toInt8.le_toInt
  have h2 := y.toInt8.toInt_lt
  simp only [lo8, fits, Bool.and_eq_true, decide_eq_true_eq, Int32.le_iff_toInt_le, Int8.toInt_toInt32, show (-128 : Int32).toInt = -128 from by decide, show (127 : Int32).toInt = 127 from by decide]
  omega
/-- A' is A but that each place j of lo .. hi - 1 holds f j -/
def Laid (A A' : Cell) (lo hi : Nat) (f : Nat → Value) : Prop := A'.cls = A.cls ∧ A'.vm = A.vm ∧ A'.slots.size = A.slots.size ∧ ∀ i, A'.slots[i]? = if lo ≤ i ∧ i < hi then some (f i) else A.slots[i]?
theorem Laid.zero (A : Cell) (lo : Nat) (f : Nat → Value) : Laid A A lo (lo + 0) f := ⟨rfl, rfl, rfl, fun i => by rw [if_neg (by omega)]⟩
theorem Laid.step {A Ak : Cell} {lo k : Nat} {f : Nat → Value} {v : Value} (h : Laid A Ak lo k f) (hlo : lo ≤ k) (hk : k < Ak.slots.size) (hv : v = f k) : Laid A (Ak.setSlot k v) lo (k + 1) f := by
  refine ⟨h.1, h.2.1, by simpa [Cell.setSlot] using h.2.2.1, fun i => ?_⟩
  by_cases e : k = i
  · subst e; rw [Cell.slots_setSlot_self v hk, if_pos (by omega), hv]
  · rw [Cell.slots_setSlot_ne v e, h.2.2.2 i]
    by_cases q : lo ≤ i ∧ i < k
    · rw [if_pos q, if_pos (by omega)]
    · rw [if_neg q, if_neg (by omega)]
def U16 : String := "java/lang/StringUTF16"
namespace Cmp5
def yN : MethodName := ⟨"java/lang/StringUTF16", "compress", "([CI[BII)I"⟩
abbrev yB : ByteArray := jdk_52_method_21_code
theorem d0 : decode yB 0 = .ok (.iconst 0, 1) := by decide +kernel
theorem d1 : decode yB 1 = .ok (.istore 5, 2) := by decide +kernel
theorem d3 : decode yB 3 = .ok (.iload 5, 2) := by decide +kernel
theorem d5 : decode yB 5 = .ok (.iload 4, 2) := by decide +kernel
theorem d7 : decode yB 7 = .ok (.if_icmp (.ge) 37, 3) := by decide +kernel
theorem d10 : decode yB 10 = .ok (.aload_n 0, 1) := by decide +kernel
theorem d11 : decode yB 11 = .ok (.iload_n 1, 1) := by decide +kernel
theorem d12 : decode yB 12 = .ok (.caload, 1) := by decide +kernel
theorem d13 : decode yB 13 = .ok (.istore 6, 2) := by decide +kernel
theorem d15 : decode yB 15 = .ok (.iload 6, 2) := by decide +kernel
theorem d17 : decode yB 17 = .ok (.sipush 255, 3) := by decide +kernel
theorem d20 : decode yB 20 = .ok (.if_icmp (.le) 6, 3) := by decide +kernel
theorem d26 : decode yB 26 = .ok (.aload_n 2, 1) := by decide +kernel
theorem d27 : decode yB 27 = .ok (.iload_n 3, 1) := by decide +kernel
theorem d28 : decode yB 28 = .ok (.iload 6, 2) := by decide +kernel
theorem d30 : decode yB 30 = .ok (.i2b, 1) := by decide +kernel
theorem d31 : decode yB 31 = .ok (.bastore, 1) := by decide +kernel
theorem d32 : decode yB 32 = .ok (.iinc 1 1, 3) := by decide +kernel
theorem d35 : decode yB 35 = .ok (.iinc 3 1, 3) := by decide +kernel
theorem d38 : decode yB 38 = .ok (.iinc 5 1, 3) := by decide +kernel
theorem d41 : decode yB 41 = .ok (.goto (-38), 3) := by decide +kernel
theorem d44 : decode yB 44 = .ok (.iload 4, 2) := by decide +kernel
theorem d46 : decode yB 46 = .ok (.ireturn, 1) := by decide +kernel
def site : List Cond := []
def tab : Cond := tabOf yN yB 7 (some .int) site
def P (b : Addr) (A : Cell) (d : Addr) (B : Cell) (o q len : Nat) (args : Array Value) (s : State) : Prop := args = #[.ref b, .int (Int32.ofNat o), .ref d, .int (Int32.ofNat q), .int (Int32.ofNat len)] ∧ Ch b A s ∧ Arr .byte d B s ∧ b ≠ d ∧ o + len ≤ A.slots.size ∧ q + len ≤ B.slots.size ∧ ∀ i, i < len → ¬ 255 < cv A (o + i)
def E (b : Addr) (A : Cell) (d : Addr) (B : Cell) (o q len : Nat) (r : Option Value) (s u : State) : Prop := r = some (.int (Int32.ofNat len)) ∧ ∃ B', Put d B' s u ∧ Laid B B' q (q + len) (fun j => Value.int (lo8 (cv A (o + (j - q)))))
/-- no char of the range above 255: len; the places written hold each char's low byte -/
theorem law (l : Launch) (b : Addr) (A : Cell) (d : Addr) (B : Cell) (o q len : Nat) : Law l yN 5 5 0 0 yB 7 (some .int) site (P b A d B o q len) (E b A d B o q len) (copyLocs d q len) 0 0 := by
  refine Law.of_walk (plainFor_of_name (by decide +kernel)) (by decide +kernel) (by decide +kernel) (by decide) (fun _ _ h => by rw [h.1]; rfl) (fun _ U U' hal hh h => ⟨h.1, h.2.1.mv hal hh, h.2.2.1.mv hal hh, h.2.2.2⟩) (fun r U U' V V' h1 hal h2 h => ⟨h.1, h.2.elim fun B' q => ⟨B', q.1.mv h1 h2, q.2⟩⟩) ?_
  intro p e s m args below meth c s₁ X0 hexec hbytes hml hret hlk hnm hown hh0 W hP
  obtain ⟨rfl, hA, hB, hne, l1, l2, hp⟩ := hP
  have c1 : Steps p.tables e below (s₁.setTop (entryFrame m #[.ref b, .int (Int32.ofNat o), .ref d, .int (Int32.ofNat q), .int (Int32.ofNat len)] 7)) (s₁.setTop (mkF m 0 #[.val (.ref b), .val (.int (Int32.ofNat o)), .val (.ref d), .val (.int (Int32.ofNat q)), .val (.int (Int32.ofNat len)), .unset, .unset] [])) := entry rfl
  have hA0 := hA.1.mv X0.warmed.alike hh0
  have hB0 := hB.mv X0.warmed.alike hh0
  have a31 := hA.1.2.2.2
  have c2 : Steps p.tables e below (s₁.setTop (entryFrame m #[.ref b, .int (Int32.ofNat o), .ref d, .int (Int32.ofNat q), .int (Int32.ofNat len)] 7)) (s₁.setTop (mkF m 3 #[.val (.ref b), .val (.int (Int32.ofNat o)), .val (.ref d), .val (.int (Int32.ofNat q)), .val (.int (Int32.ofNat len)), .val (.int 0), .unset] [])) := c1.trans (by
    refine iconstV X0.here hexec rfl 0 (hb hbytes d0) (by decide) ?_
    refine XS.istore X0.here hexec rfl (hb hbytes d1) rfl rfl ?_
    exact Steps.refl _)
  have loop : ∀ (r i : Nat), i + r = len → ∀ (z : Slot), (z = .unset ∨ ∃ w, z = .val w ∧ w.category = 1) → ∀ (Tl : State) (Bk : Cell), Stand p l e { frames := 0, locals := 0, cells := 0, slots := 0 } s m #[.ref b, .int (Int32.ofNat o), .ref d, .int (Int32.ofNat q), .int (Int32.ofNat len)] below meth c Tl ([] ++ copyLocs d q i) 0 0 → Put d Bk s₁ Tl → Laid B Bk q (q + i) (fun j => Value.int (lo8 (cv A (o + (j - q))))) →
      Steps p.tables e below (s₁.setTop (entryFrame m #[.ref b, .int (Int32.ofNat o), .ref d, .int (Int32.ofNat q), .int (Int32.ofNat len)] 7)) (Tl.setTop (mkF m 3 #[.val (.ref b), .val (.int (Int32.ofNat (o + i))), .val (.ref d), .val (.int (Int32.ofNat (q + i))), .val (.int (Int32.ofNat len)), .val (.int (Int32.ofNat i)), z] [])) → ∃ (T' : State) (B' : Cell) (z' : Slot), Stand p l e { frames := 0, locals := 0, cells := 0, slots := 0 } s m #[.ref b, .int (Int32.ofNat o), .ref d, .int (Int32.ofNat q), .int (Int32.ofNat len)] below meth c T' ([] ++ copyLocs d q len) 0 0 ∧ Put d B' s₁ T' ∧ Laid B B' q (q + len) (fun j => Value.int (lo8 (cv A (o + (j - q))))) ∧
      Steps p.tables e below (s₁.setTop (entryFrame m #[.ref b, .int (Int32.ofNat o), .ref d, .int (Int32.ofNat q), .int (Int32.ofNat len)] 7)) (T'.setTop (mkF m 3 #[.val (.ref b), .val (.int (Int32.ofNat (o + len))), .val (.ref d), .val (.int (Int32.ofNat (q + len))), .val (.int (Int32.ofNat len)), .val (.int (Int32.ofNat len)), z'] [])) := by
    intro r
    induction r with
    | zero =>
      intro i hi z hz Tl Bk Xl pl fl cl
      have hil : i = len := by omega
      rw [hil] at Xl fl cl
      exact ⟨Tl, Bk, z, Xl, pl, fl, cl⟩
    | succ r ih =>
      intro i hi z hz Tl Bk Xl pl fl cl
      have all := X0.warmed.alike.symm.trans Xl.warmed.alike
      have hAl := hA0.keep all (pl.other hne hA0.1)
      have hBk := hB0.like all pl.1 fl.1 fl.2.1 fl.2.2.1
      have hlt : q + i < Bk.slots.size := by rw [fl.2.2.1]; omega
      have c3 : Steps p.tables e below (s₁.setTop (entryFrame m #[.ref b, .int (Int32.ofNat o), .ref d, .int (Int32.ofNat q), .int (Int32.ofNat len)] 7)) (Tl.setTop (mkF m 12 #[.val (.ref b), .val (.int (Int32.ofNat (o + i))), .val (.ref d), .val (.int (Int32.ofNat (q + i))), .val (.int (Int32.ofNat len)), .val (.int (Int32.ofNat i)), z] [.int (Int32.ofNat (o + i)), .ref b])) := cl.trans (by
        refine XS.iload Xl.here hexec rfl (hb hbytes d3) rfl ?_
        refine XS.iload Xl.here hexec rfl (hb hbytes d5) rfl ?_
        refine XS.icmpNo Xl.here hexec rfl (hb hbytes d7) rfl (ii_ge_f (lt32 (by omega) (by omega))) ?_
        refine XS.aloadN Xl.here hexec rfl (hb hbytes d10) rfl rfl ?_
        refine XS.iloadN Xl.here hexec rfl (hb hbytes d11) rfl ?_
        exact Steps.refl _)
      have c4 : Steps p.tables e below (s₁.setTop (entryFrame m #[.ref b, .int (Int32.ofNat o), .ref d, .int (Int32.ofNat q), .int (Int32.ofNat len)] 7)) (Tl.setTop (mkF m 13 #[.val (.ref b), .val (.int (Int32.ofNat (o + i))), .val (.ref d), .val (.int (Int32.ofNat (q + i))), .val (.int (Int32.ofNat len)), .val (.int (Int32.ofNat i)), z] [.int (cv A (o + i))])) := c3.trans (by
        refine Xl.aget hexec hAl rfl (hA.get (i := o + i) (by omega)) rfl rfl (hb hbytes d12) ?_
        exact Steps.refl _)
      have c5 : Steps p.tables e below (s₁.setTop (entryFrame m #[.ref b, .int (Int32.ofNat o), .ref d, .int (Int32.ofNat q), .int (Int32.ofNat len)] 7)) (Tl.setTop (mkF m 15 #[.val (.ref b), .val (.int (Int32.ofNat (o + i))), .val (.ref d), .val (.int (Int32.ofNat (q + i))), .val (.int (Int32.ofNat len)), .val (.int (Int32.ofNat i)), .val (.int (cv A (o + i)))] [])) := c4.trans (by
        refine XS.istoreS Xl.here hexec rfl (hb hbytes d13) rfl rfl hz ?_
        exact Steps.refl _)
      have c6 : Steps p.tables e below (s₁.setTop (entryFrame m #[.ref b, .int (Int32.ofNat o), .ref d, .int (Int32.ofNat q), .int (Int32.ofNat len)] 7)) (Tl.setTop (mkF m 31 #[.val (.ref b), .val (.int (Int32.ofNat (o + i))), .val (.ref d), .val (.int (Int32.ofNat (q + i))), .val (.int (Int32.ofNat len)), .val (.int (Int32.ofNat i)), .val (.int (cv A (o + i)))] [.int (lo8 (cv A (o + i))), .int (Int32.ofNat (q + i)), .ref d])) := c5.trans (by
        refine XS.iload Xl.here hexec rfl (hb hbytes d15) rfl ?_
        refine sipushV Xl.here hexec rfl 255 (hb hbytes d17) (by decide) ?_
        refine XS.icmpYes Xl.here hexec rfl (pc0 := 20) rfl (hb hbytes d20) rfl (ii_le_t (hp i (by omega))) (by decide) rfl ?_
        refine XS.aloadN Xl.here hexec rfl (hb hbytes d26) rfl rfl ?_
        refine XS.iloadN Xl.here hexec rfl (hb hbytes d27) rfl ?_
        refine XS.iload Xl.here hexec rfl (hb hbytes d28) rfl ?_
        refine i2b Xl.here hexec rfl (hb hbytes d30) rfl ?_
        exact Steps.refl _)
      obtain ⟨T7, X7, p7, st7⟩ := Xl.aput hexec hBk rfl hlt rfl (fits_lo8 (cv A (o + i))) (g := (mkF m 31 #[.val (.ref b), .val (.int (Int32.ofNat (o + i))), .val (.ref d), .val (.int (Int32.ofNat (q + i))), .val (.int (Int32.ofNat len)), .val (.int (Int32.ofNat i)), .val (.int (cv A (o + i)))] [.int (lo8 (cv A (o + i))), .int (Int32.ofNat (q + i)), .ref d])) rfl (rest := []) rfl (hb hbytes d31)
      have c8 : Steps p.tables e below (s₁.setTop (entryFrame m #[.ref b, .int (Int32.ofNat o), .ref d, .int (Int32.ofNat q), .int (Int32.ofNat len)] 7)) (T7.setTop (mkF m 32 #[.val (.ref b), .val (.int (Int32.ofNat (o + i))), .val (.ref d), .val (.int (Int32.ofNat (q + i))), .val (.int (Int32.ofNat len)), .val (.int (Int32.ofNat i)), .val (.int (cv A (o + i)))] [])) := c6.trans (st7 _ (Steps.refl _))
      have c9 : Steps p.tables e below (s₁.setTop (entryFrame m #[.ref b, .int (Int32.ofNat o), .ref d, .int (Int32.ofNat q), .int (Int32.ofNat len)] 7)) (T7.setTop (mkF m 3 #[.val (.ref b), .val (.int (Int32.ofNat (o + i) + 1)), .val (.ref d), .val (.int (Int32.ofNat (q + i) + 1)), .val (.int (Int32.ofNat len)), .val (.int (Int32.ofNat i + 1)), .val (.int (cv A (o + i)))] [])) := c8.trans (by
        refine iincV X7.here hexec rfl 1 (hb hbytes d32) (by decide) rfl rfl ?_
        refine iincV X7.here hexec rfl 1 (hb hbytes d35) (by decide) rfl rfl ?_
        refine iincV X7.here hexec rfl 1 (hb hbytes d38) (by decide) rfl rfl ?_
        refine XS.goto X7.here hexec rfl (pc0 := 41) rfl (hb hbytes d41) (by decide) rfl ?_
        exact Steps.refl _)
      have c10 : Steps p.tables e below (s₁.setTop (entryFrame m #[.ref b, .int (Int32.ofNat o), .ref d, .int (Int32.ofNat q), .int (Int32.ofNat len)] 7)) (T7.setTop (mkF m 3 #[.val (.ref b), .val (.int (Int32.ofNat (o + (i + 1)))), .val (.ref d), .val (.int (Int32.ofNat (q + (i + 1)))), .val (.int (Int32.ofNat len)), .val (.int (Int32.ofNat (i + 1))), .val (.int (cv A (o + i)))] [])) := by
        have := c9
        rw [succ32, succ32, succ32] at this
        exact this
      exact ih (i + 1) (by omega) _ (Or.inr ⟨_, rfl, rfl⟩) T7 _ (by rw [copyLocs_step, ← List.append_assoc]; exact X7) (pl.trans p7) (fl.step (by omega) hlt (by simp)) c10
  obtain ⟨T9, B9, z9, X9, p9, f9, g9⟩ := loop len 0 (by omega) .unset (Or.inl rfl) s₁ B (by simpa [copyLocs] using X0) ⟨hB0.1, fun _ _ => rfl, rfl⟩ (Laid.zero _ _ _) c2
  have c11 : Steps p.tables e below (s₁.setTop (entryFrame m #[.ref b, .int (Int32.ofNat o), .ref d, .int (Int32.ofNat q), .int (Int32.ofNat len)] 7)) (T9.setTop (mkF m 46 #[.val (.ref b), .val (.int (Int32.ofNat (o + len))), .val (.ref d), .val (.int (Int32.ofNat (q + len))), .val (.int (Int32.ofNat len)), .val (.int (Int32.ofNat len)), z9] [.int (Int32.ofNat len)])) := g9.trans (by
    refine XS.iload X9.here hexec rfl (hb hbytes d3) rfl ?_
    refine XS.iload X9.here hexec rfl (hb hbytes d5) rfl ?_
    refine XS.icmpYes X9.here hexec rfl (pc0 := 7) rfl (hb hbytes d7) rfl (ii_ge_t (nlt32 (by omega) (Nat.le_refl _))) (by decide) rfl ?_
    refine XS.iload X9.here hexec rfl (hb hbytes d44) rfl ?_
    exact Steps.refl _)
  exact ⟨T9, some (.int (Int32.ofNat len)), _, _, _, X9, by simp, rfl, rfl, (fun h => by cases h), ⟨rfl, B9, p9.from hh0, f9⟩, fun fs hl => c11.trans (X9.ireturnOut hexec hret rfl (Or.inl rfl) (hb hbytes d46) hl)⟩
end Cmp5
namespace Cmp3
def yN : MethodName := ⟨"java/lang/StringUTF16", "compress", "([CII)[B"⟩
abbrev yB : ByteArray := jdk_52_method_16_code
theorem d0 : decode yB 0 = .ok (.iload_n 2, 1) := by decide +kernel
theorem d1 : decode yB 1 = .ok (.newarray .byte, 2) := by decide +kernel
theorem d3 : decode yB 3 = .ok (.astore_n 3, 1) := by decide +kernel
theorem d4 : decode yB 4 = .ok (.aload_n 0, 1) := by decide +kernel
theorem d5 : decode yB 5 = .ok (.iload_n 1, 1) := by decide +kernel
theorem d6 : decode yB 6 = .ok (.aload_n 3, 1) := by decide +kernel
theorem d7 : decode yB 7 = .ok (.iconst 0, 1) := by decide +kernel
theorem d8 : decode yB 8 = .ok (.iload_n 2, 1) := by decide +kernel
theorem d9 : decode yB 9 = .ok (.invokestatic 115, 3) := by decide +kernel
theorem d12 : decode yB 12 = .ok (.istore 4, 2) := by decide +kernel
theorem d14 : decode yB 14 = .ok (.iload 4, 2) := by decide +kernel
theorem d16 : decode yB 16 = .ok (.iload_n 2, 1) := by decide +kernel
theorem d17 : decode yB 17 = .ok (.if_icmp (.eq) 40, 3) := by decide +kernel
theorem d57 : decode yB 57 = .ok (.aload_n 3, 1) := by decide +kernel
theorem d58 : decode yB 58 = .ok (.areturn, 1) := by decide +kernel
def site : List Cond := [.arrayClass .byte, Cmp5.tab] ++ staticW U16 115 Cmp5.yN
def tab : Cond := tabOf yN yB 6 (some (.array .byte)) site
def P (b : Addr) (A : Cell) (o len : Nat) (args : Array Value) (s : State) : Prop := args = #[.ref b, .int (Int32.ofNat o), .int (Int32.ofNat len)] ∧ Ch b A s ∧ o + len ≤ A.slots.size ∧ len ≤ 536870912 ∧ ∀ i, i < len → ¬ 255 < cv A (o + i)
def E (b : Addr) (A : Cell) (o len : Nat) (r : Option Value) (s u : State) : Prop := NewArr .byte "[B" len (fun j => .int (lo8 (cv A (o + j)))) r s u ∧ u.heap.size = s.heap.size + 1
/-- no char of the range above 255: a new byte[] of their low bytes -/
theorem law (l : Launch) (b : Addr) (A : Cell) (o len : Nat) : Law l yN 3 3 1 18 yB 6 (some (.array .byte)) site (P b A o len) (E b A o len) [] 1 len := by
  refine Law.of_walk (plainFor_of_name (by decide +kernel)) (by decide +kernel) (by decide +kernel) (by decide) (fun _ _ h => by rw [h.1]; rfl) (fun _ U U' hal hh h => ⟨h.1, h.2.1.mv hal hh, h.2.2⟩) (fun r U U' V V' h1 hal h2 h => ⟨NewArr.mv r U U' V V' h1 hal h2 h.1, by rw [h1, h2]; exact h.2⟩) ?_
  intro p e s m args below meth c s₁ X0 hexec hbytes hml hret hlk hnm hown hh0 W hP
  obtain ⟨rfl, hA, l1, l2, hp⟩ := hP
  have a31 := hA.1.2.2.2
  have c1 : Steps p.tables e below (s₁.setTop (entryFrame m #[.ref b, .int (Int32.ofNat o), .int (Int32.ofNat len)] 6)) (s₁.setTop (mkF m 0 #[.val (.ref b), .val (.int (Int32.ofNat o)), .val (.int (Int32.ofNat len)), .unset, .unset, .unset] [])) := entry rfl
  have c2 : Steps p.tables e below (s₁.setTop (entryFrame m #[.ref b, .int (Int32.ofNat o), .int (Int32.ofNat len)] 6)) (s₁.setTop (mkF m 1 #[.val (.ref b), .val (.int (Int32.ofNat o)), .val (.int (Int32.ofNat len)), .unset, .unset, .unset] [.int (Int32.ofNat len)])) := c1.trans (by
    refine XS.iloadN X0.here hexec rfl (hb hbytes d0) rfl ?_
    exact Steps.refl _)
  obtain ⟨T3, B3, X3, ba3, bs3, bv3, bh3, bf3, st3⟩ := X0.anew hexec (atype := .byte) (wk W (.arrayClass .byte)) rfl (by show len * 1 ≤ _; omega) (by omega) (g := (mkF m 1 #[.val (.ref b), .val (.int (Int32.ofNat o)), .val (.int (Int32.ofNat len)), .unset, .unset, .unset] [.int (Int32.ofNat len)])) rfl (hb hbytes d1) (rest := []) rfl (Nat.le_refl _) (by show 0 + len ≤ len; omega)
  rw [hh0] at ba3 st3
  have kp3 : XT.Kept s T3 := (XT.Kept.of_eq hh0).push bh3
  have hA3 := hA.keep X3.warmed.alike (kp3 _ _ hA.1.1)
  have hne : b ≠ s.heap.size := hA.1.ne
  have c4 : Steps p.tables e below (s₁.setTop (entryFrame m #[.ref b, .int (Int32.ofNat o), .int (Int32.ofNat len)] 6)) (T3.setTop (mkF m 3 #[.val (.ref b), .val (.int (Int32.ofNat o)), .val (.int (Int32.ofNat len)), .unset, .unset, .unset] [.ref s.heap.size])) := c2.trans (st3 _ (Steps.refl _))
  have c5 : Steps p.tables e below (s₁.setTop (entryFrame m #[.ref b, .int (Int32.ofNat o), .int (Int32.ofNat len)] 6)) (T3.setTop (mkF m 9 #[.val (.ref b), .val (.int (Int32.ofNat o)), .val (.int (Int32.ofNat len)), .val (.ref s.heap.size), .unset, .unset] [.int (Int32.ofNat len), .int 0, .ref s.heap.size, .int (Int32.ofNat o), .ref b])) := c4.trans (by
    refine XS.astoreN X3.here hexec rfl (hb hbytes d3) rfl rfl rfl ?_
    refine XS.aloadN X3.here hexec rfl (hb hbytes d4) rfl rfl ?_
    refine XS.iloadN X3.here hexec rfl (hb hbytes d5) rfl ?_
    refine XS.aloadN X3.here hexec rfl (hb hbytes d6) rfl rfl ?_
    refine iconstV X3.here hexec rfl 0 (hb hbytes d7) (by decide) ?_
    refine XS.iloadN X3.here hexec rfl (hb hbytes d8) rfl ?_
    exact Steps.refl _)
  obtain ⟨v6, T6, X6, E6, g6⟩ := X3.callS hexec (Cmp5.law l b A s.heap.size B3 o 0 len) hown (wks W (staticW U16 115 Cmp5.yN)) (wk W Cmp5.tab) (W := 0) (Nat.le_of_ble_eq_true rfl) (Nat.le_of_ble_eq_true rfl) (Nat.le_refl _) (by show 0 + len + 0 ≤ len; omega) (g := (mkF m 9 #[.val (.ref b), .val (.int (Int32.ofNat o)), .val (.int (Int32.ofNat len)), .val (.ref s.heap.size), .unset, .unset] [.int (Int32.ofNat len), .int (Int32.ofNat 0), .ref s.heap.size, .int (Int32.ofNat o), .ref b])) rfl (by rw [hml]; rfl) c5 (argsL := [.ref b, .int (Int32.ofNat o), .ref s.heap.size, .int (Int32.ofNat 0), .int (Int32.ofNat len)]) (rest := []) rfl rfl (by show 2 * 0 + 0 ≤ _; decide) (hb hbytes d9) (⟨rfl, hA3, ba3, hne, l1, by rw [bs3]; simp, hp⟩)
  obtain ⟨rfl, B6, p6, f6⟩ := E6
  have c7 : Steps p.tables e below (s₁.setTop (entryFrame m #[.ref b, .int (Int32.ofNat o), .int (Int32.ofNat len)] 6)) (T6.setTop (mkF m 12 #[.val (.ref b), .val (.int (Int32.ofNat o)), .val (.int (Int32.ofNat len)), .val (.ref s.heap.size), .unset, .unset] [.int (Int32.ofNat len)])) := g6
  have c8 : Steps p.tables e below (s₁.setTop (entryFrame m #[.ref b, .int (Int32.ofNat o), .int (Int32.ofNat len)] 6)) (T6.setTop (mkF m 58 #[.val (.ref b), .val (.int (Int32.ofNat o)), .val (.int (Int32.ofNat len)), .val (.ref s.heap.size), .val (.int (Int32.ofNat len)), .unset] [.ref s.heap.size])) := c7.trans (by
    refine XS.istore X6.here hexec rfl (hb hbytes d12) rfl rfl ?_
    refine XS.iload X6.here hexec rfl (hb hbytes d14) rfl ?_
    refine XS.iloadN X6.here hexec rfl (hb hbytes d16) rfl ?_
    refine XS.icmpYes X6.here hexec rfl (pc0 := 17) rfl (hb hbytes d17) rfl (ii_eq_t rfl) (by decide) rfl ?_
    refine XS.aloadN X6.here hexec rfl (hb hbytes d57) rfl rfl ?_
    exact Steps.refl _)
  have X8 := X6.wide (L' := []) (cells' := 1) (slots' := len) (fun x hx hlt => by
    simp only [List.nil_append, copyLocs, List.mem_map, List.mem_range] at hx
    obtain ⟨i, -, rfl⟩ := hx
    exact absurd hlt (Nat.lt_irrefl _)) (Nat.le_refl _) (by omega)
  exact ⟨T6, some (.ref s.heap.size), _, _, _, X8, rfl, rfl, rfl, (fun h => by cases h), ⟨⟨rfl, B6, ba3.like (X3.warmed.alike.symm.trans X6.warmed.alike) p6.1 f6.1 f6.2.1 f6.2.2.1, f6.2.1.trans bv3, by rw [X6.warmed.alike.findClass, f6.1]; exact bf3, by rw [f6.2.2.1, bs3]; simp, fun j hj => by rw [f6.2.2.2 j, if_pos (by omega)]; rfl, kp3.put p6 (Nat.le_refl _)⟩, by rw [p6.2.2, bh3, hh0]; simp⟩, fun fs hl => c8.trans (X8.areturnOut hexec rfl hret rfl (hb hbytes d58) hl)⟩
end Cmp3
namespace CodL
def yN : MethodName := ⟨"java/lang/StringUTF16", "coderFromArrayLen", "([BI)B"⟩
abbrev yB : ByteArray := jdk_52_method_15_code
theorem d0 : decode yB 0 = .ok (.iload_n 1, 1) := by decide +kernel
theorem d1 : decode yB 1 = .ok (.aload_n 0, 1) := by decide +kernel
theorem d2 : decode yB 2 = .ok (.arraylength, 1) := by decide +kernel
theorem d3 : decode yB 3 = .ok (.isub, 1) := by decide +kernel
theorem d4 : decode yB 4 = .ok (.bipush 31, 2) := by decide +kernel
theorem d6 : decode yB 6 = .ok (.iushr, 1) := by decide +kernel
theorem d7 : decode yB 7 = .ok (.i2b, 1) := by decide +kernel
theorem d8 : decode yB 8 = .ok (.ireturn, 1) := by decide +kernel
def site : List Cond := []
def tab : Cond := tabOf yN yB 2 (some .byte) site
def P (d : Addr) (B : Cell) (args : Array Value) (s : State) : Prop := args = #[.ref d, .int (Int32.ofNat B.slots.size)] ∧ Arr .byte d B s
def E (r : Option Value) (s u : State) : Prop := XT.PureE (some (.int 0)) r s u
/-- an array as long as the number of chars: LATIN1 -/
theorem law (l : Launch) (d : Addr) (B : Cell) : Law l yN 2 2 0 0 yB 2 (some .byte) site (P d B) E [] 0 0 := by
  refine Law.of_walk (plainFor_of_name (by decide +kernel)) (by decide +kernel) (by decide +kernel) (by decide) (fun _ _ h => by rw [h.1]; rfl) (fun _ U U' hal hh h => ⟨h.1, h.2.mv hal hh⟩) (fun r U U' V V' h1 hal h2 h => XT.PureE.mv r U U' V V' h1 hal h2 h) ?_
  intro p e s m args below meth c s₁ X0 hexec hbytes hml hret hlk hnm hown hh0 W hP
  obtain ⟨rfl, hB⟩ := hP
  have hB0 := hB.mv X0.warmed.alike hh0
  have c1 : Steps p.tables e below (s₁.setTop (entryFrame m #[.ref d, .int (Int32.ofNat B.slots.size)] 2)) (s₁.setTop (mkF m 0 #[.val (.ref d), .val (.int (Int32.ofNat B.slots.size))] [])) := entry rfl
  have c2 : Steps p.tables e below (s₁.setTop (entryFrame m #[.ref d, .int (Int32.ofNat B.slots.size)] 2)) (s₁.setTop (mkF m 2 #[.val (.ref d), .val (.int (Int32.ofNat B.slots.size))] [.ref d, .int (Int32.ofNat B.slots.size)])) := c1.trans (by
    refine XS.iloadN X0.here hexec rfl (hb hbytes d0) rfl ?_
    refine XS.aloadN X0.here hexec rfl (hb hbytes d1) rfl rfl ?_
    exact Steps.refl _)
  have c3 : Steps p.tables e below (s₁.setTop (entryFrame m #[.ref d, .int (Int32.ofNat B.slots.size)] 2)) (s₁.setTop (mkF m 8 #[.val (.ref d), .val (.int (Int32.ofNat B.slots.size))] [.int (lo8 (ushr (Int32.ofNat B.slots.size - Int32.ofNat B.slots.size) 31))])) := c2.trans (by
    refine X0.alen hexec hB0 rfl rfl (hb hbytes d2) ?_
    refine XS.isub X0.here hexec rfl (hb hbytes d3) rfl ?_
    refine bipushV X0.here hexec rfl 31 (hb hbytes d4) (by decide) ?_
    refine iushr X0.here hexec rfl (hb hbytes d6) rfl ?_
    refine i2b X0.here hexec rfl (hb hbytes d7) rfl ?_
    exact Steps.refl _)
  have e0 : lo8 (ushr (Int32.ofNat B.slots.size - Int32.ofNat B.slots.size) 31) = 0 := by rw [Int32.sub_self]; decide
  rw [e0] at c3
  exact ⟨s₁, some (.int 0), _, _, _, X0, rfl, rfl, rfl, (fun h => by cases h), ⟨rfl, hh0⟩, fun fs hl => c3.trans (X0.ireturnOut hexec hret rfl (Or.inr (Or.inr (Or.inl rfl))) (hb hbytes d8) hl)⟩
end CodL
/-- the String at a is Latin-1 over a new byte[] (the heap's one new cell): the low bytes of the len chars of A from o on; every cell but a is kept -/
def Got (a : Addr) (D : Cell) (fV fC : Field) (A : Cell) (o len : Nat) (r : Option Value) (s u : State) : Prop := r = none ∧ ∃ D' V : Cell, Blank "java/lang/String" a D' u ∧ Same D D' [fV.slot, fC.slot] ∧ D'.slots[fV.slot]? = some (.ref s.heap.size) ∧ D'.slots[fC.slot]? = some (.int 0) ∧ Arr .byte s.heap.size V u ∧ V.vm = .none ∧ u.vm.findClass "[B" = some V.cls ∧ V.slots.size = len ∧ (∀ j, j < len → V.slots[j]? = some (.int (lo8 (cv A (o + j))))) ∧ (∀ (y : Addr) (c : Cell), y ≠ a → s.heap[y]? = some c → u.heap[y]? = some c) ∧ u.heap.size = s.heap.size + 1
theorem Got.mv {a : Addr} {D A : Cell} {fV fC : Field} {o len : Nat} : ∀ r (U U' V V' : State), U'.heap = U.heap → V.vm.Alike V'.vm → V'.heap = V.heap → Got a D fV fC A o len r U V → Got a D fV fC A o len r U' V' :=
  fun r U U' V V' h1 hal h2 ⟨e0, D', X, a1, a2, a3, a4, a5, a6, a7, a8, a9, a10, a11⟩ => ⟨e0, D', X, a1.mv hal h2, a2, by rw [h1]; exact a3, a4, by rw [h1]; exact a5.mv hal h2, a6, by rw [hal.findClass]; exact a7, a8, a9, by rw [h1, h2]; exact a10, by rw [h1, h2]; exact a11⟩
namespace New4
def yN : MethodName := ⟨"java/lang/String", "<init>", "([CIILjava/lang/Void;)V"⟩
abbrev yB : ByteArray := jdk_42_method_149_code
theorem d0 : decode yB 0 = .ok (.aload_n 0, 1) := by decide +kernel
theorem d1 : decode yB 1 = .ok (.invokespecial 1, 3) := by decide +kernel
theorem d4 : decode yB 4 = .ok (.iload_n 3, 1) := by decide +kernel
theorem d5 : decode yB 5 = .ok (.ifCond (.ne) 22, 3) := by decide +kernel
theorem d27 : decode yB 27 = .ok (.getstatic 38, 3) := by decide +kernel
theorem d30 : decode yB 30 = .ok (.ifCond (.eq) 28, 3) := by decide +kernel
theorem d33 : decode yB 33 = .ok (.aload_n 1, 1) := by decide +kernel
theorem d34 : decode yB 34 = .ok (.iload_n 2, 1) := by decide +kernel
theorem d35 : decode yB 35 = .ok (.iload_n 3, 1) := by decide +kernel
theorem d36 : decode yB 36 = .ok (.invokestatic 177, 3) := by decide +kernel
theorem d39 : decode yB 39 = .ok (.astore 5, 2) := by decide +kernel
theorem d41 : decode yB 41 = .ok (.aload_n 0, 1) := by decide +kernel
theorem d42 : decode yB 42 = .ok (.aload 5, 2) := by decide +kernel
theorem d44 : decode yB 44 = .ok (.iload_n 3, 1) := by decide +kernel
theorem d45 : decode yB 45 = .ok (.invokestatic 47, 3) := by decide +kernel
theorem d48 : decode yB 48 = .ok (.putfield 15, 3) := by decide +kernel
theorem d51 : decode yB 51 = .ok (.aload_n 0, 1) := by decide +kernel
theorem d52 : decode yB 52 = .ok (.aload 5, 2) := by decide +kernel
theorem d54 : decode yB 54 = .ok (.putfield 9, 3) := by decide +kernel
theorem d57 : decode yB 57 = .ok (.return_, 1) := by decide +kernel
def site : List Cond := [.fieldLink "java/lang/String" 38 "java/lang/String" "COMPACT_STRINGS" "Z", Cmp3.tab, CodL.tab, .laysFinal "java/lang/String" "java/lang/String" "value" "[B", .fieldLink "java/lang/String" 9 "java/lang/String" "value" "[B", .laysFinal "java/lang/String" "java/lang/String" "coder" "B", .fieldLink "java/lang/String" 15 "java/lang/String" "coder" "B"] ++ objW "java/lang/String" 1 ++ staticW "java/lang/String" 177 Cmp3.yN ++ staticW "java/lang/String" 47 CodL.yN
def tab : Cond := tabOf yN yB 6 none site
def P (a : Addr) (D : Cell) (fV fC : Field) (b : Addr) (A : Cell) (z : Int32) (o len : Nat) (args : Array Value) (s : State) : Prop := args = #[.ref a, .ref b, .int (Int32.ofNat o), .int (Int32.ofNat len), .null] ∧ Blank "java/lang/String" a D s ∧ Found "java/lang/String" "value" "[B" fV s ∧ Found "java/lang/String" "coder" "B" fC s ∧ Ch b A s ∧ StaticIs s "java/lang/String" "COMPACT_STRINGS" "Z" (.int z) ∧ ¬ z = 0 ∧ 0 < len ∧ o + len ≤ A.slots.size ∧ len ≤ 536870912 ∧ ∀ i, i < len → ¬ 255 < cv A (o + i)
def E (a : Addr) (D : Cell) (fV fC : Field) (A : Cell) (o len : Nat) (r : Option Value) (s u : State) : Prop := Got a D fV fC A o len r s u
/-- len > 0, no char of the range above 255: a Latin-1 String of their low bytes -/
theorem law (l : Launch) (a : Addr) (D : Cell) (fV fC : Field) (b : Addr) (A : Cell) (z : Int32) (o len : Nat) : Law l yN 5 4 2 35 yB 6 none site (P a D fV fC b A z o len) (E a D fV fC A o len) [⟨a, fC.slot⟩, ⟨a, fV.slot⟩] 1 len := by
  refine Law.of_walk (plainFor_of_name (by decide +kernel)) (by decide +kernel) (by decide +kernel) (by decide) (fun _ _ h => by rw [h.1]; rfl) (fun _ U U' hal hh h => ⟨h.1, h.2.1.mv hal hh, h.2.2.1.al hal, h.2.2.2.1.al hal, h.2.2.2.2.1.mv hal hh, h.2.2.2.2.2.1.there hal hh, h.2.2.2.2.2.2⟩) (fun r U U' V V' h1 hal h2 h => Got.mv r U U' V V' h1 hal h2 h) ?_
  intro p e s m args below meth c s₁ X0 hexec hbytes hml hret hlk hnm hown hh0 W hP
  obtain ⟨rfl, hB, f1, f2, hA, s1, hz, l0, l1, l2, hp⟩ := hP
  have a31 := hA.1.2.2.2
  have c1 : Steps p.tables e below (s₁.setTop (entryFrame m #[.ref a, .ref b, .int (Int32.ofNat o), .int (Int32.ofNat len), .null] 6)) (s₁.setTop (mkF m 0 #[.val (.ref a), .val (.ref b), .val (.int (Int32.ofNat o)), .val (.int (Int32.ofNat len)), .val .null, .unset] [])) := entry rfl
  have c2 : Steps p.tables e below (s₁.setTop (entryFrame m #[.ref a, .ref b, .int (Int32.ofNat o), .int (Int32.ofNat len), .null] 6)) (s₁.setTop (mkF m 1 #[.val (.ref a), .val (.ref b), .val (.int (Int32.ofNat o)), .val (.int (Int32.ofNat len)), .val .null, .unset] [.ref a])) := c1.trans (by
    refine XS.aloadN X0.here hexec rfl (hb hbytes d0) rfl rfl ?_
    exact Steps.refl _)
  obtain ⟨T3, X3, q3, st3⟩ := X0.oinit hexec hown (wks W (objW "java/lang/String" 1)) (g := (mkF m 1 #[.val (.ref a), .val (.ref b), .val (.int (Int32.ofNat o)), .val (.int (Int32.ofNat len)), .val .null, .unset] [.ref a])) rfl (by rw [hml]; rfl) (rest := []) rfl (hb hbytes d1) (W := 0) (by show 2 * 0 + 0 ≤ _; decide) (Nat.le_of_ble_eq_true rfl) (Nat.le_of_ble_eq_true rfl)
  have hh3 := q3.trans hh0
  have c4 : Steps p.tables e below (s₁.setTop (entryFrame m #[.ref a, .ref b, .int (Int32.ofNat o), .int (Int32.ofNat len), .null] 6)) (T3.setTop (mkF m 27 #[.val (.ref a), .val (.ref b), .val (.int (Int32.ofNat o)), .val (.int (Int32.ofNat len)), .val .null, .unset] [])) := (c2.trans (st3 _ (Steps.refl _))).trans (by
    refine XS.iloadN X3.here hexec rfl (hb hbytes d4) rfl ?_
    refine XS.ifYes X3.here hexec rfl (pc0 := 5) rfl (hb hbytes d5) rfl (i0_ne_t (nz32 (by omega) l0)) (by decide) rfl ?_
    exact Steps.refl _)
  obtain ⟨T5, X5, q5, st5⟩ := X3.sget hexec hown (wk W (.fieldLink "java/lang/String" 38 "java/lang/String" "COMPACT_STRINGS" "Z")) s1 (fun _ _ h => by rw [hh3]; exact h) (g := (mkF m 27 #[.val (.ref a), .val (.ref b), .val (.int (Int32.ofNat o)), .val (.int (Int32.ofNat len)), .val .null, .unset] [])) rfl (hb hbytes d27)
  have hh5 := q5.trans hh3
  have c6 : Steps p.tables e below (s₁.setTop (entryFrame m #[.ref a, .ref b, .int (Int32.ofNat o), .int (Int32.ofNat len), .null] 6)) (T5.setTop (mkF m 30 #[.val (.ref a), .val (.ref b), .val (.int (Int32.ofNat o)), .val (.int (Int32.ofNat len)), .val .null, .unset] [.int z])) := c4.trans (st5 _ (Steps.refl _))
  have c7 : Steps p.tables e below (s₁.setTop (entryFrame m #[.ref a, .ref b, .int (Int32.ofNat o), .int (Int32.ofNat len), .null] 6)) (T5.setTop (mkF m 36 #[.val (.ref a), .val (.ref b), .val (.int (Int32.ofNat o)), .val (.int (Int32.ofNat len)), .val .null, .unset] [.int (Int32.ofNat len), .int (Int32.ofNat o), .ref b])) := c6.trans (by
    refine XS.ifNo X5.here hexec rfl (hb hbytes d30) rfl (i0_eq_f hz) ?_
    refine XS.aloadN X5.here hexec rfl (hb hbytes d33) rfl rfl ?_
    refine XS.iloadN X5.here hexec rfl (hb hbytes d34) rfl ?_
    refine XS.iloadN X5.here hexec rfl (hb hbytes d35) rfl ?_
    exact Steps.refl _)
  obtain ⟨v8, T8, X8, E8, g8⟩ := X5.callS hexec (Cmp3.law l b A o len) hown (wks W (staticW "java/lang/String" 177 Cmp3.yN)) (wk W Cmp3.tab) (W := 0) (Nat.le_of_ble_eq_true rfl) (Nat.le_of_ble_eq_true rfl) (Nat.le_refl _) (by show 0 + len ≤ len; omega) (g := (mkF m 36 #[.val (.ref a), .val (.ref b), .val (.int (Int32.ofNat o)), .val (.int (Int32.ofNat len)), .val .null, .unset] [.int (Int32.ofNat len), .int (Int32.ofNat o), .ref b])) rfl (by rw [hml]; rfl) c7 (argsL := [.ref b, .int (Int32.ofNat o), .int (Int32.ofNat len)]) (rest := []) rfl rfl (by show 2 * 0 + 0 ≤ _; decide) (hb hbytes d36) (⟨rfl, hA.mv X5.warmed.alike hh5, l1, l2, hp⟩)
  obtain ⟨e8, z8⟩ := E8
  obtain ⟨rfl, N, n1, n2, n3, n4, n5, n6⟩ := NewArr.mv _ T5 s _ _ hh5.symm (Vm.Alike.refl _) rfl e8
  rw [hh5] at z8
  have hB1 := hB.keep X8.warmed.alike (n6 _ _ hB.1)
  have hne : s.heap.size ≠ a := (Nat.ne_of_lt (Array.getElem?_eq_some_iff.mp hB.1).1).symm
  have c9 : Steps p.tables e below (s₁.setTop (entryFrame m #[.ref a, .ref b, .int (Int32.ofNat o), .int (Int32.ofNat len), .null] 6)) (T8.setTop (mkF m 39 #[.val (.ref a), .val (.ref b), .val (.int (Int32.ofNat o)), .val (.int (Int32.ofNat len)), .val .null, .unset] [.ref s.heap.size])) := g8
  have c10 : Steps p.tables e below (s₁.setTop (entryFrame m #[.ref a, .ref b, .int (Int32.ofNat o), .int (Int32.ofNat len), .null] 6)) (T8.setTop (mkF m 45 #[.val (.ref a), .val (.ref b), .val (.int (Int32.ofNat o)), .val (.int (Int32.ofNat len)), .val .null, .val (.ref s.heap.size)] [.int (Int32.ofNat N.slots.size), .ref s.heap.size, .ref a])) := by
    have hc : Steps p.tables e below (s₁.setTop (entryFrame m #[.ref a, .ref b, .int (Int32.ofNat o), .int (Int32.ofNat len), .null] 6)) (T8.setTop (mkF m 45 #[.val (.ref a), .val (.ref b), .val (.int (Int32.ofNat o)), .val (.int (Int32.ofNat len)), .val .null, .val (.ref s.heap.size)] [.int (Int32.ofNat len), .ref s.heap.size, .ref a])) := c9.trans (by
      refine XS.astore X8.here hexec rfl (hb hbytes d39) rfl rfl rfl ?_
      refine XS.aloadN X8.here hexec rfl (hb hbytes d41) rfl rfl ?_
      refine XS.aload X8.here hexec rfl (hb hbytes d42) rfl rfl ?_
      refine XS.iloadN X8.here hexec rfl (hb hbytes d44) rfl ?_
      exact Steps.refl _)
    rw [n4]; exact hc
  obtain ⟨v11, T11, X11, E11, g11⟩ := X8.callS hexec (CodL.law l s.heap.size N) hown (wks W (staticW "java/lang/String" 47 CodL.yN)) (wk W CodL.tab) (W := 1) (Nat.le_of_ble_eq_true rfl) (Nat.le_of_ble_eq_true rfl) (Nat.le_refl _) (by show 0 + len + 0 ≤ len; omega) (g := (mkF m 45 #[.val (.ref a), .val (.ref b), .val (.int (Int32.ofNat o)), .val (.int (Int32.ofNat len)), .val .null, .val (.ref s.heap.size)] [.int (Int32.ofNat N.slots.size), .ref s.heap.size, .ref a])) rfl (by rw [hml]; rfl) c10 (argsL := [.ref s.heap.size, .int (Int32.ofNat N.slots.size)]) (rest := [.ref a]) rfl rfl (by show 2 * 0 + (1 + 0) ≤ _; decide) (hb hbytes d45) (⟨rfl, n1⟩)
  obtain ⟨rfl, q11⟩ := E11
  have hB11 := hB1.mv (X8.warmed.alike.symm.trans X11.warmed.alike) q11
  have c12 : Steps p.tables e below (s₁.setTop (entryFrame m #[.ref a, .ref b, .int (Int32.ofNat o), .int (Int32.ofNat len), .null] 6)) (T11.setTop (mkF m 48 #[.val (.ref a), .val (.ref b), .val (.int (Int32.ofNat o)), .val (.int (Int32.ofNat len)), .val .null, .val (.ref s.heap.size)] [.int 0, .ref a])) := g11
  obtain ⟨T13, X13, p13, bl13, sl13, st13⟩ := X11.finit hexec hown (wk W (.fieldLink "java/lang/String" 15 "java/lang/String" "coder" "B")) (Or.inr ⟨_, (wk W (.laysFinal "java/lang/String" "java/lang/String" "coder" "B"))⟩) (Or.inl ⟨rfl, hnm⟩) f2 (Or.inl rfl) hB11 (t := .byte) (by decide +kernel) rfl (g := (mkF m 48 #[.val (.ref a), .val (.ref b), .val (.int (Int32.ofNat o)), .val (.int (Int32.ofNat len)), .val .null, .val (.ref s.heap.size)] [.int 0, .ref a])) rfl (rest := []) rfl (hb hbytes d48)
  have c14 : Steps p.tables e below (s₁.setTop (entryFrame m #[.ref a, .ref b, .int (Int32.ofNat o), .int (Int32.ofNat len), .null] 6)) (T13.setTop (mkF m 54 #[.val (.ref a), .val (.ref b), .val (.int (Int32.ofNat o)), .val (.int (Int32.ofNat len)), .val .null, .val (.ref s.heap.size)] [.ref s.heap.size, .ref a])) := (c12.trans (st13 _ (Steps.refl _))).trans (by
    refine XS.aloadN X13.here hexec rfl (hb hbytes d51) rfl rfl ?_
    refine XS.aload X13.here hexec rfl (hb hbytes d52) rfl rfl ?_
    exact Steps.refl _)
  obtain ⟨T15, X15, p15, bl15, sl15, st15⟩ := X13.finit hexec hown (wk W (.fieldLink "java/lang/String" 9 "java/lang/String" "value" "[B")) (Or.inr ⟨_, (wk W (.laysFinal "java/lang/String" "java/lang/String" "value" "[B"))⟩) (Or.inl ⟨rfl, hnm⟩) f1 (Or.inl rfl) bl13 (t := (.array .byte)) (by decide +kernel) rfl (g := (mkF m 54 #[.val (.ref a), .val (.ref b), .val (.int (Int32.ofNat o)), .val (.int (Int32.ofNat len)), .val .null, .val (.ref s.heap.size)] [.ref s.heap.size, .ref a])) rfl (rest := []) rfl (hb hbytes d54)
  have c16 : Steps p.tables e below (s₁.setTop (entryFrame m #[.ref a, .ref b, .int (Int32.ofNat o), .int (Int32.ofNat len), .null] 6)) (T15.setTop (mkF m 57 #[.val (.ref a), .val (.ref b), .val (.int (Int32.ofNat o)), .val (.int (Int32.ofNat len)), .val .null, .val (.ref s.heap.size)] [])) := c14.trans (st15 _ (Steps.refl _))
  have ap := apart (Or.inr ⟨_, (wk W (.laysFinal "java/lang/String" "java/lang/String" "value" "[B"))⟩) (Or.inr ⟨_, (wk W (.laysFinal "java/lang/String" "java/lang/String" "coder" "B"))⟩) f1 f2 (t₁ := .array .byte) (t₂ := .byte) (by decide +kernel) (by decide +kernel) (by decide)
  have al := X8.warmed.alike.symm.trans X15.warmed.alike
  have n7 : T11.heap[s.heap.size]? = some N := by rw [q11]; exact n1.1
  exact ⟨T15, none, _, _, _, X15, by simp, rfl, by omega, (fun _ => rfl), ⟨rfl, _, N, bl15, ((Same.refl D _).set _ (by simp)).set _ (by simp), sl15, (Cell.slots_setSlot_ne _ ap).trans sl13, n1.keep al (p15.other hne (p13.other hne n7)), n2, by rw [al.findClass]; exact n3, n4, n5, fun y c h1 h2 => p15.other h1 (p13.other h1 (by rw [q11]; exact n6 y c h2)), by rw [p15.2.2, p13.2.2, q11]; exact z8⟩, fun fs hl => c16.trans (X15.returnOut hexec hret (hb hbytes d57) hl)⟩
end New4
namespace New1
def yN : MethodName := ⟨"java/lang/String", "<init>", "([C)V"⟩
abbrev yB : ByteArray := jdk_42_method_3_code
theorem d0 : decode yB 0 = .ok (.aload_n 0, 1) := by decide +kernel
theorem d1 : decode yB 1 = .ok (.aload_n 1, 1) := by decide +kernel
theorem d2 : decode yB 2 = .ok (.iconst 0, 1) := by decide +kernel
theorem d3 : decode yB 3 = .ok (.aload_n 1, 1) := by decide +kernel
theorem d4 : decode yB 4 = .ok (.arraylength, 1) := by decide +kernel
theorem d5 : decode yB 5 = .ok (.aconst_null, 1) := by decide +kernel
theorem d6 : decode yB 6 = .ok (.invokespecial 27, 3) := by decide +kernel
theorem d9 : decode yB 9 = .ok (.return_, 1) := by decide +kernel
def site : List Cond := [New4.tab] ++ initW "java/lang/String" 27 New4.yN
def tab : Cond := tabOf yN yB 2 none site
def P (a : Addr) (D : Cell) (fV fC : Field) (b : Addr) (A : Cell) (z : Int32) (args : Array Value) (s : State) : Prop := args = #[.ref a, .ref b] ∧ Blank "java/lang/String" a D s ∧ Found "java/lang/String" "value" "[B" fV s ∧ Found "java/lang/String" "coder" "B" fC s ∧ Ch b A s ∧ StaticIs s "java/lang/String" "COMPACT_STRINGS" "Z" (.int z) ∧ ¬ z = 0 ∧ 0 < A.slots.size ∧ A.slots.size ≤ 536870912 ∧ ∀ i, i < A.slots.size → ¬ 255 < cv A i
def E (a : Addr) (D : Cell) (fV fC : Field) (A : Cell) (r : Option Value) (s u : State) : Prop := Got a D fV fC A 0 A.slots.size r s u
/-- new String(chars), not empty, no char above 255: a Latin-1 String of their low bytes -/
theorem law (l : Launch) (a : Addr) (D : Cell) (fV fC : Field) (b : Addr) (A : Cell) (z : Int32) : Law l yN 2 1 3 52 yB 2 none site (P a D fV fC b A z) (E a D fV fC A) [⟨a, fC.slot⟩, ⟨a, fV.slot⟩] 1 A.slots.size := by
  refine Law.of_walk (plainFor_of_name (by decide +kernel)) (by decide +kernel) (by decide +kernel) (by decide) (fun _ _ h => by rw [h.1]; rfl) (fun _ U U' hal hh h => ⟨h.1, h.2.1.mv hal hh, h.2.2.1.al hal, h.2.2.2.1.al hal, h.2.2.2.2.1.mv hal hh, h.2.2.2.2.2.1.there hal hh, h.2.2.2.2.2.2⟩) (fun r U U' V V' h1 hal h2 h => Got.mv r U U' V V' h1 hal h2 h) ?_
  intro p e s m args below meth c s₁ X0 hexec hbytes hml hret hlk hnm hown hh0 W hP
  obtain ⟨rfl, hB, f1, f2, hA, s1, hz, l0, l2, hp⟩ := hP
  have c1 : Steps p.tables e below (s₁.setTop (entryFrame m #[.ref a, .ref b] 2)) (s₁.setTop (mkF m 0 #[.val (.ref a), .val (.ref b)] [])) := entry rfl
  have c2 : Steps p.tables e below (s₁.setTop (entryFrame m #[.ref a, .ref b] 2)) (s₁.setTop (mkF m 6 #[.val (.ref a), .val (.ref b)] [.null, .int (Int32.ofNat A.slots.size), .int 0, .ref b, .ref a])) := c1.trans (by
    refine XS.aloadN X0.here hexec rfl (hb hbytes d0) rfl rfl ?_
    refine XS.aloadN X0.here hexec rfl (hb hbytes d1) rfl rfl ?_
    refine iconstV X0.here hexec rfl 0 (hb hbytes d2) (by decide) ?_
    refine XS.aloadN X0.here hexec rfl (hb hbytes d3) rfl rfl ?_
    refine X0.alen hexec (hA.1.mv X0.warmed.alike hh0) rfl rfl (hb hbytes d4) ?_
    refine XS.aconstNull X0.here hexec rfl (hb hbytes d5) ?_
    exact Steps.refl _)
  obtain ⟨v3, T3, X3, E3, g3⟩ := X0.callN hexec (New4.law l a D fV fC b A z 0 A.slots.size) rfl hown (wks W (initW "java/lang/String" 27 New4.yN)) (W New4.tab (by simp only [site, List.mem_cons, List.mem_append, true_or, or_true])) (W := 0) (Nat.le_of_ble_eq_true rfl) (Nat.le_of_ble_eq_true rfl) (Nat.le_refl _) (by show 0 + A.slots.size ≤ A.slots.size; omega) (g := (mkF m 6 #[.val (.ref a), .val (.ref b)] [.null, .int (Int32.ofNat A.slots.size), .int (Int32.ofNat 0), .ref b, .ref a])) rfl (by rw [hml]; rfl) c2 (argsL := [.ref b, .int (Int32.ofNat 0), .int (Int32.ofNat A.slots.size), .null]) (rest := []) rfl rfl (by show 2 * 0 + 0 ≤ _; decide) (hb hbytes d6) (⟨rfl, hB.mv X0.warmed.alike hh0, f1.al X0.warmed.alike, f2.al X0.warmed.alike, hA.mv X0.warmed.alike hh0, s1.there X0.warmed.alike hh0, hz, l0, by omega, l2, fun i hi => by rw [Nat.zero_add]; exact hp i hi⟩)
  have e0 := Got.mv _ s₁ s _ _ hh0.symm (Vm.Alike.refl _) rfl E3
  obtain rfl := e0.1
  have c4 : Steps p.tables e below (s₁.setTop (entryFrame m #[.ref a, .ref b] 2)) (T3.setTop (mkF m 9 #[.val (.ref a), .val (.ref b)] [])) := g3
  exact ⟨T3, none, _, _, _, X3, by simp, rfl, by omega, (fun _ => rfl), e0, fun fs hl => c4.trans (X3.returnOut hexec hret (hb hbytes d9) hl)⟩
theorem pays {l : Launch} {R : Room} {p : Program} {e : Env} {below : List Frame} {s : State} {sargs : Array Value} {len W : Nat} (a : Addr) (D : Cell) (fV fC : Field) (b : Addr) (A : Cell) (z : Int32) (htab : tab.before sargs s = true) (hfr : 4 ≤ R.frames) (hlo : W + 65 ≤ R.locals) :
    Back l R p e below s sargs yN len W (fun A₁ a₁ => A₁.cells + 1 ≤ R.cells ∧ A₁.slots + A.slots.size ≤ R.slots ∧ P a D fV fC b A z a₁ A₁.U) (fun A₁ _ v₁ B₁ => E a D fV fC A v₁ A₁.U B₁.U ∧ B₁.locs = A₁.locs ++ [⟨a, fC.slot⟩, ⟨a, fV.slot⟩] ∧ B₁.cells = A₁.cells + 1 ∧ B₁.slots = A₁.slots + A.slots.size) :=
  (law l a D fV fC b A z).pays htab hfr (by omega)
end New1
end StrChars
namespace StrChars.Road
open Jvm Sem ClassFile Op Lib Jvm.Stand Jvm.Free Jvm.Free.XT
open Jvm.Lib.Cold (StaticIs)
abbrev ST : String := "java/lang/String"
/-- every table word that New1's law asks, flat -/
abbrev words : List Jvm.Cond := [.code New1.yN New1.yB 2 none, .initialized ST, .methodLink ST 27 New4.yN, .instanceMethod New4.yN,
  .code New4.yN New4.yB 6 none, .fieldLink ST 38 ST "COMPACT_STRINGS" "Z", .laysFinal ST ST "value" "[B", .fieldLink ST 9 ST "value" "[B", .laysFinal ST ST "coder" "B", .fieldLink ST 15 ST "coder" "B",
  .methodLink ST 1 Lib.objectInit, .instanceMethod Lib.objectInit, .code Lib.objectInit ⟨#[0xb1]⟩ 1 none, .methodLink ST 177 Cmp3.yN, .static Cmp3.yN, .methodLink ST 47 CodL.yN, .static CodL.yN,
  .code Cmp3.yN Cmp3.yB 6 (some (.array .byte)), .initialized U16, .arrayClass .byte, .methodLink U16 115 Cmp5.yN, .static Cmp5.yN, .code Cmp5.yN Cmp5.yB 7 (some .int), .code CodL.yN CodL.yB 2 (some .byte)]
theorem tab_of {a : Array Value} {s : State} (h : ∀ w ∈ words, w.before a s = true) : New1.tab.before a s = true := by
  have h5 : Cmp5.tab.before a s = true := unparts (wk h (.code Cmp5.yN Cmp5.yB 7 (some .int))) (wks h (.initialized Cmp5.yN.cls :: Cmp5.site))
  have hc : CodL.tab.before a s = true := unparts (wk h (.code CodL.yN CodL.yB 2 (some .byte))) (wks h (.initialized CodL.yN.cls :: CodL.site))
  have q5 : ∀ w ∈ Cmp5.tab :: words, w.before a s = true := fun w hw => (List.mem_cons.mp hw).elim (fun e => e ▸ h5) (h w)
  have h3 : Cmp3.tab.before a s = true := unparts (wk q5 (.code Cmp3.yN Cmp3.yB 6 (some (.array .byte)))) (wks q5 (.initialized Cmp3.yN.cls :: Cmp3.site))
  have q3 : ∀ w ∈ Cmp3.tab :: CodL.tab :: words, w.before a s = true := fun w hw => (List.mem_cons.mp hw).elim (fun e => e ▸ h3) fun hw => (List.mem_cons.mp hw).elim (fun e => e ▸ hc) (h w)
  have h4 : New4.tab.before a s = true := unparts (wk q3 (.code New4.yN New4.yB 6 none)) (wks q3 (.initialized New4.yN.cls :: New4.site))
  have q4 : ∀ w ∈ New4.tab :: words, w.before a s = true := fun w hw => (List.mem_cons.mp hw).elim (fun e => e ▸ h4) (h w)
  exact unparts (wk q4 (.code New1.yN New1.yB 2 none)) (wks q4 (.initialized New1.yN.cls :: New1.site))
/-- the words ride from the start Z to the walk's own state -/
theorem moved {Z s : State} {a0 args : Array Value} (hZ : Z.Warmed39 s.vm) (hw : ∀ d ∈ words, d.before a0 Z = true) : ∀ d ∈ words, d.before args s = true := fun d hd => by
  have q := hw d hd
  have t : ∀ d ∈ words, d = .arrayClass .byte ∨ (d.onTables && d.keepsFace) = true := by decide +kernel
  rcases t d hd with rfl | t
  · exact RoadKit.mvA hZ q
  · exact RoadKit.mv hZ q t
/-- WHAT COMES BACK, over the tables of the start Z: h the heap at the call, h' behind it -/
def Q (Z : State) (x : Addr) (A : Cell) (h : Heap) (v : Option Value) (h' : Heap) (L : List Loc) : Prop := v = none ∧ (∀ y ∈ L, y.base = x) ∧ RoadKit.Keep h h' [x] ∧ h'.size = h.size + 1 ∧ RoadKit.Exa Z h' x ST ∧ RoadKit.Fld Z h' x ST "value" "[B" (.ref h.size) ∧ RoadKit.Fld Z h' x ST "coder" "B" (.int 0) ∧
  (∃ V : Cell, RoadKit.Arr Z h' h.size V .byte ∧ V.vm = .none ∧ Z.vm.findClass "[B" = some V.cls ∧ V.slots.size = A.slots.size ∧ ∀ j, j < A.slots.size → V.slots[j]? = some (.int (lo8 (cv A j)))) ∧
  ∀ (O n d : String) (w : Value), RoadKit.Fld Z h x O n d w → RoadKit.slotOf Z O n d ≠ RoadKit.slotOf Z ST "value" "[B" → RoadKit.slotOf Z O n d ≠ RoadKit.slotOf Z ST "coder" "B" → RoadKit.Fld Z h' x O n d w
/-- **new String(chars) AT A CALL, IN THE ROAD'S FORM**: for specialBack behind newO: x the fresh String, b the char[] with the cell A -/
theorem back {p : Program} {l : Launch} {e : Env} {R : Room} {s : State} {args : Array Value} {below : List Frame} {len W : Nat} {Z : State} {a0 : Array Value} {h : Heap} (hZ : Z.Warmed39 s.vm) (hw : ∀ d ∈ words, d.before a0 Z = true) {kI : Nat} (wi : (Jvm.Cond.instantiable ST kI).before a0 Z = true)
    {x b : Addr} {A : Cell} {z : Int32} {v0 c0 : Value} (E : RoadKit.Exa Z h x ST) (V : RoadKit.Fld Z h x ST "value" "[B" v0) (C : RoadKit.Fld Z h x ST "coder" "B" c0) (K : RoadKit.Arr Z h b A .char) (hty : Typed .char A) (S : RoadKit.Sta Z h ST "COMPACT_STRINGS" "Z" (.int z)) (hz : ¬ z = 0)
    (l0 : 0 < A.slots.size) (l2 : A.slots.size ≤ 536870912) (hp : ∀ i, i < A.slots.size → ¬ 255 < cv A i) (hfr : 4 ≤ R.frames) (hlo : W + 65 ≤ R.locals) :
    Back l R p e below s args New1.yN len W (fun P a => a = #[.ref x, .ref b] ∧ P.U.heap = h ∧ P.cells + 1 ≤ R.cells ∧ P.slots + A.slots.size ≤ R.slots)
      (fun P _ v B => ∃ L, Q Z x A h v B.U.heap L ∧ B.locs = P.locs ++ L ∧ B.cells = P.cells + 1 ∧ B.slots = P.slots + A.slots.size) := by
  intro m meth c P g ig mk a X hg hsize hdg hW hn hp'
  obtain ⟨rfl, rfl, r1, r2⟩ := hp'
  have al : Z.vm.Alike P.U.vm := hZ.alike.trans X.warmed.alike
  obtain ⟨D, cfV, kV, iV, fV, hD, gV, stV, knV, obV, asV, slV⟩ := id V
  obtain ⟨D', cfC, kC, iC, fC, hD', gC, stC, -, -, asC, slC⟩ := id C
  cases hD.symm.trans hD'
  obtain ⟨D2, kD, e1, e2, e3, e4, e5⟩ := id E
  cases hD.symm.trans e1
  obtain ⟨c2, k2, i1, i2, i3, -⟩ := Cond.instantiable_spec wi
  cases e2.symm.trans i1
  cases e3.symm.trans i2
  obtain ⟨kU, u1, u2⟩ := al.2.2 _ _ e3
  have hB : Blank ST x D P.U := ⟨hD, ⟨knV, fun q hq => by rw [hq] at obV; cases obV⟩, by rw [al.findClass]; exact e2, kU, u1, by rw [u2]; exact i3, by rw [u2]; exact e5 i3⟩
  have F1 : Found ST "value" "[B" fV P.U := ⟨SBG.found_only al ⟨cfV, kV, iV, gV⟩, stV⟩
  have F2 : Found ST "coder" "B" fC P.U := ⟨SBG.found_only al ⟨cfC, kC, iC, gC⟩, stC⟩
  have hA : Ch b A P.U := ⟨⟨K.1, State.isArrayOf_alike al K.2.1, K.2.2, by omega⟩, hty⟩
  have hS : StaticIs P.U ST "COMPACT_STRINGS" "Z" (.int z) := by
    obtain ⟨cfS, iS, kS, fS, st, cS, t1, t2, t3, t4, t5, t6, t7⟩ := S
    exact StaticIs.there (s := { Z with heap := P.U.heap }) ⟨cfS, iS, kS, fS, st, cS, t1, t2, t3, t4, t5, (fun q => by rw [q] at t6; cases t6), t7⟩ al rfl
  obtain ⟨v, B, X', ⟨⟨hv, E', V', q1, q2, q3, q4, q5, q6, q7, q8, q9, q10, q11⟩, hl, hc, hs⟩, st⟩ := New1.pays x D fV fC b A z (tab_of (moved hZ hw)) hfr hlo m meth c P g ig mk _ X hg hsize hdg hW hn ⟨r1, r2, rfl, hB, F1, F2, hA, hS, hz, l0, l2, hp⟩
  have al' : Z.vm.Alike B.U.vm := hZ.alike.trans X'.warmed.alike
  have hsz : E'.slots.size = D.slots.size := by
    obtain ⟨-, -, -, kB, w1, w2, w3⟩ := q1
    obtain ⟨kB', y1, y2⟩ := al'.2.2 _ _ e3
    rw [q2.2.1] at w1
    cases w1.symm.trans y1
    rw [w3, e5 i3, y2]
  refine ⟨v, B, X', ⟨_, ⟨hv, ?_, ⟨by omega, fun y cy hy hn' => q10 y cy (by simpa using hn') hy, fun y cy hy => ?_⟩, q11, ⟨E', _, q1.1, by rw [q2.2.1]; exact e2, by rw [q2.2.1]; exact e3, by rw [q2.1]; exact obV, fun _ => by rw [hsz]; exact e5 i3⟩,
    ⟨E', cfV, kV, iV, fV, q1.1, gV, stV, by rw [q2.1]; exact knV, by rw [q2.1]; exact obV, by rw [q2.2.1]; exact asV, q3⟩, ⟨E', cfC, kC, iC, fC, q1.1, gC, stC, by rw [q2.1]; exact knV, by rw [q2.1]; exact obV, by rw [q2.2.1]; exact asC, q4⟩,
    ⟨V', ⟨q5.1, State.isArrayOf_alike al'.symm q5.2.1, q5.2.2.1⟩, q6, by rw [← al'.findClass]; exact q7, q8, fun j hj => by have := q9 j hj; rwa [Nat.zero_add] at this⟩, fun O n d w F n1 n2 => ?_⟩, hl, hc, hs⟩, st⟩
  · intro y hy
    simp only [List.mem_cons, List.not_mem_nil, or_false] at hy
    rcases hy with rfl | rfl <;> rfl
  · by_cases q : y = x
    · subst q
      cases hD.symm.trans hy
      exact ⟨E', q1.1, q2.2.1, q2.1, hsz⟩
    · exact ⟨cy, q10 y cy q hy, rfl, rfl, rfl⟩
  · obtain ⟨D3, cf, k, i, f, g1, g2, g3, g4, g5, g6, g7⟩ := F
    cases hD.symm.trans g1
    simp only [RoadKit.slotOf, g2, gV, gC, Option.map_some, Option.getD_some] at n1 n2
    exact ⟨E', cf, k, i, f, q1.1, g2, g3, by rw [q2.1]; exact g4, by rw [q2.1]; exact g5, by rw [q2.2.1]; exact g6, by rw [q2.2.2 f.slot (by simp [n1, n2])]; exact g7⟩
end StrChars.Road
namespace StrChars.Road
open Jvm Sem ClassFile Op Lib Jvm.Stand Jvm.Free Jvm.Free.XT
/-- WHAT COMES BACK, the byte[] as a list of values -/
def QA (Z : State) (x : Addr) (zn : Int32) (cs : List Int32) (h : Heap) (v : Option Value) (h' : Heap) (L : List Loc) : Prop := v = none ∧ (∀ y ∈ L, y.base = x) ∧ RoadKit.Keep h h' [x] ∧ h'.size = h.size + 1 ∧ RoadKit.Exa Z h' x ST ∧ RoadKit.Fld Z h' x ST "value" "[B" (.ref h.size) ∧ RoadKit.Fld Z h' x ST "coder" "B" (.int 0) ∧
  (∃ kb, Z.vm.findClass "[B" = some kb ∧ RoadKit.Arv Z h' h.size kb .byte zn (cs.map fun c => .int (lo8 c)) (.int 0)) ∧
  ∀ (O n d : String) (w : Value), RoadKit.Fld Z h x O n d w → RoadKit.slotOf Z O n d ≠ RoadKit.slotOf Z ST "value" "[B" → RoadKit.slotOf Z O n d ≠ RoadKit.slotOf Z ST "coder" "B" → RoadKit.Fld Z h' x O n d w
/-- **new String(chars) AT A CALL, THE ARRAYS AS LISTS**: the char[] at b holds cs, not empty, no char above 255 -/
theorem backArv {p : Program} {l : Launch} {e : Env} {R : Room} {s : State} {args : Array Value} {below : List Frame} {len W : Nat} {Z : State} {a0 : Array Value} {h : Heap} (hZ : Z.Warmed39 s.vm) (hw : ∀ d ∈ words, d.before a0 Z = true) {kI : Nat} (wi : (Jvm.Cond.instantiable ST kI).before a0 Z = true)
    {x b : Addr} {k : ClassId} {zn z : Int32} {cs : List Int32} {dv v0 c0 : Value} (E : RoadKit.Exa Z h x ST) (V : RoadKit.Fld Z h x ST "value" "[B" v0) (C : RoadKit.Fld Z h x ST "coder" "B" c0) (K : RoadKit.Arv Z h b k .char zn (cs.map Value.int) dv) (S : RoadKit.Sta Z h ST "COMPACT_STRINGS" "Z" (.int z)) (hz : ¬ z = 0)
    (hlen : zn.toNatClampNeg = cs.length) (h0 : 0 < cs.length) (hbig : cs.length ≤ 536870912) (hall : ∀ c ∈ cs, ¬ 255 < c) (hfr : 4 ≤ R.frames) (hlo : W + 65 ≤ R.locals) :
    Back l R p e below s args New1.yN len W (fun P a => a = #[.ref x, .ref b] ∧ P.U.heap = h ∧ P.cells + 1 ≤ R.cells ∧ P.slots + cs.length ≤ R.slots)
      (fun P _ v B => ∃ L, QA Z x zn cs h v B.U.heap L ∧ B.locs = P.locs ++ L ∧ B.cells = P.cells + 1 ∧ B.slots = P.slots + cs.length) := by
  obtain ⟨A, K1, K2, K3, K4, K5, K6⟩ := K
  have e : A.slots.size = cs.length := K3.trans hlen
  have hat : ∀ (i : Nat) (hi : i < cs.length), A.slots[i]? = some (.int cs[i]) := fun i hi => by rw [K5 i (by omega)]; simp [List.getD_eq_getElem?_getD, hi]
  have hcv : ∀ (i : Nat) (hi : i < cs.length), cv A i = cs[i] := fun i hi => by unfold cv; rw [hat i hi]
  have hty : Typed .char A := fun i v hv => by
    have hi : i < A.slots.size := (Array.getElem?_eq_some_iff.mp hv).1
    have q := K5 i hi
    rw [hv] at q
    rw [Option.some.inj q]
    exact K6 i hi
  refine Back.mono (back hZ hw wi E V C K1 hty S hz (by omega) (by omega) (fun i hi => by rw [hcv i (by omega)]; exact hall _ (List.getElem_mem _)) hfr hlo) (fun P a hp => ⟨hp.1, hp.2.1, hp.2.2.1, by rw [e]; exact hp.2.2.2⟩) (fun P a v B hp hq => ?_)
  obtain ⟨L, ⟨q1, q2, q3, q4, q5, q6, q7, ⟨V', v1, v2, v3, v4, v5⟩, q9⟩, hl, hc, hs⟩ := hq
  refine ⟨L, ⟨q1, q2, q3, q4, q5, q6, q7, ⟨V'.cls, v3, V', v1, rfl, by rw [v4, e, hlen], K4, fun i hi => ?_, fun i hi => ?_⟩, q9⟩, hl, hc, by rw [hs, e]⟩
  · have hi' : i < cs.length := by omega
    rw [v5 i (by omega), hcv i hi']; simp [List.getD_eq_getElem?_getD, hi']
  · have hi' : i < cs.length := by omega
    simp only [List.getD_eq_getElem?_getD, List.getElem?_map, List.getElem?_eq_getElem hi', Option.map_some, Option.getD_some]
    exact fits_lo8 _
end StrChars.Road
namespace StrChars.Road
open Jvm Sem ClassFile Op Lib Jvm.Stand Jvm.Free Jvm.Free.XT
/-- WHAT COMES BACK, in the writer's own shape -/
def QV (Z : State) (x : Addr) (N : Int32) (bs : List Int32) (h : Heap) (n0 : Nat) (v : Option Value) (h' : Heap) (L : List Loc) : Prop := v = none ∧ RoadKit.Fr n0 L ∧ RoadKit.Keep h h' [x] ∧ RoadKit.Exa Z h' x ST ∧ RoadKit.Fld Z h' x ST "coder" "B" (.int 0) ∧
  ∃ (t : Addr) (kb : ClassId), n0 ≤ t ∧ h.size ≤ t ∧ ¬ t = x ∧ RoadKit.Fld Z h' x ST "value" "[B" (.ref t) ∧ RoadKit.Arv Z h' t kb .byte N (bs.map Value.int) (.int 0)
/-- **new String(chars) AT A CALL, FOR THE WRITER**: a char[] of n known ints, each 0 to 255 -/
theorem backV {p : Program} {l : Launch} {e : Env} {R : Room} {s : State} {args : Array Value} {below : List Frame} {len W : Nat} {Z : State} {a0 : Array Value} {h : Heap} (hZ : Z.Warmed39 s.vm) (hw : ∀ d ∈ words, d.before a0 Z = true) {kI : Nat} (wi : (Jvm.Cond.instantiable ST kI).before a0 Z = true)
    {x b : Addr} {kC : ClassId} {cs bs : List Int32} {d v0 c0 : Value} {z N : Int32} {n n0 : Nat} (hx0 : n0 ≤ x) (hh0 : n0 ≤ h.size) (E : RoadKit.Exa Z h x ST) (V : RoadKit.Fld Z h x ST "value" "[B" v0) (C : RoadKit.Fld Z h x ST "coder" "B" c0) (K : RoadKit.Arv Z h b kC .char N (cs.map Value.int) d) (S : RoadKit.Sta Z h ST "COMPACT_STRINGS" "Z" (.int z)) (hz : ¬ z = 0)
    (hn : cs.length = n) (hN : N = Int32.ofNat n) (l0 : 0 < n) (l2 : n ≤ 4000) (hp : ∀ c ∈ cs, ¬ c < 0 ∧ ¬ (255 : Int32) < c) (hb : bs = cs.map (fun c => c.toInt8.toInt32)) (hfr : 4 ≤ R.frames) (hlo : W + 65 ≤ R.locals) :
    Back l R p e below s args (⟨"java/lang/String", "<init>", "([C)V"⟩ : MethodName) len W (fun P a => a = #[.ref x, .ref b] ∧ P.U.heap = h ∧ P.cells + 1 ≤ R.cells ∧ P.slots + n ≤ R.slots)
      (fun P _ v B => ∃ L, QV Z x N bs h n0 v B.U.heap L ∧ B.locs = P.locs ++ L ∧ B.cells = P.cells + 1 ∧ B.slots = P.slots + n) := by
  subst hn hN hb
  refine Back.mono (backArv hZ hw wi E V C K S hz (n32 (by omega)) l0 (by omega) (fun c hc => (hp c hc).2) hfr hlo) (fun P a hp => hp) (fun P a v B hp hq => ?_)
  obtain ⟨L, ⟨q1, q2, q3, q4, q5, q6, q7, ⟨kb, v1, v2⟩, q9⟩, hl, hc, hs⟩ := hq
  exact ⟨L, ⟨q1, fun y hy => by rw [q2 y hy]; exact hx0, q3, q5, q7, h.size, kb, hh0, Nat.le_refl _, Nat.ne_of_gt E.lt, q6, by rw [List.map_map]; exact v2⟩, hl, hc, hs⟩
end StrChars.Road
end Jvm.Pilot.@@N@@
namespace Jvm.OwnKit
open Jvm Jvm.ClassFile Sem Op Lib Jvm.Free Jvm.Stand Jvm.LawKit Jvm.RoadKit Bundle
/-- what is left to show of a walk that stands at S: it ends, and Q holds there -/
def Go (tb : Tables) (e : Env) (below : List Frame) (Q : Outcome → State → Prop) (S : State) : Prop :=
  ∃ (U : State) (o : Outcome), Steps tb e below S U ∧ U.status = .running ∧ Ended U below o ∧ Q o U
section
variable {tb : Tables} {e : Env} {below : List Frame} {Q : Outcome → State → Prop} {S S' : State}
theorem Go.st (f : ∀ {t : State}, Steps tb e below S' t → Steps tb e below S t) (h : Go tb e below Q S') : Go tb e below Q S := by
  obtain ⟨U, o, h1, h2⟩ := h
  exact ⟨U, o, f h1, h2⟩
theorem Go.to (f : ∀ t : State, Steps tb e below S' t → Steps tb e below S t) (h : Go tb e below Q S') : Go tb e below Q S := Go.st (fun {t} => f t) h
theorem Go.run (f : Steps tb e below S S') (h : Go tb e below Q S') : Go tb e below Q S := by
  obtain ⟨U, o, h1, h2⟩ := h
  exact ⟨U, o, f.trans h1, h2⟩
end
theorem castGo {tb : Tables} {e : Env} {below : List Frame} {Q : Outcome → State → Prop} {T : State} {g g' : JFrame} (q : g = g') (k : Go tb e below Q (T.setTop g')) : Go tb e below Q (T.setTop g) := q ▸ k
/-- the end of a plain walk -/
def PEnd (s : State) (Qc : Option Value → Heap → List Loc → Prop) (kc ks : Nat) (o : Outcome) (U : State) : Prop :=
  ∃ v L, o = .returned v ∧ Qc v U.heap L ∧ FrameEnd s o U L kc ks
/-- a plain contract: from the heap h with these arguments it returns, Qc holds, the room is kept -/
def Con (l : Launch) (Z : State) (y : MethodName) (bytes : ByteArray) (maxL : Nat) (ret : Option FieldType) (rm : Room) (as' : Array Value) (h : Heap) (Qc : Option Value → Heap → List Loc → Prop) : Prop :=
  ∀ ws : List Jvm.Cond, MetFree l y (head1 (Jvm.Cond.code y bytes maxL ret :: ws) rm) (fun a U => a = as' ∧ Z.Warmed39 U.vm ∧ U.heap = h) (fun _ _ _ _ _ => True) (fun _ U o U' => PEnd U Qc rm.cells rm.slots o U')
theorem Con.intro {l : Launch} {Z : State} {y : MethodName} {bytes : ByteArray} {maxL : Nat} {ret : Option FieldType} {rm : Room} {as' : Array Value} {h : Heap} {Qc : Option Value → Heap → List Loc → Prop} (pn : plainName y.cls = true)
    (body : ∀ (p : Program) (e : Env) (s : State) (m : MethodId) (below : List Frame) (meth : Method) (c : Code) (T : State), Stand p l e rm s m as' below meth c T [] 0 0 → p.tables.exec = Jvm.exec → c.code = bytes → c.maxLocals = maxL →
      s.vm.findClass y.cls = some m.cls → meth.name = y.name → meth.sig.returnType = ret → meth.locks = false → Z.Warmed39 s.vm → T.heap = h →
      Go p.tables e below (PEnd s Qc rm.cells rm.slots) (T.setTop (entryFrame m as' maxL))) : Con l Z y bytes maxL ret rm as' h Qc := by
  intro ws
  refine MetFree.of_bodySF (plainFor_of_name pn) hisR ?_
  intro p e s m args below meth c s₁ Bd hml0 hP hK
  obtain ⟨rfl, hZ, hh⟩ := hP
  exact body p e s m below meth c s₁ (Stand.of_body Bd) Bd.exec Bd.bytes hml0 (findClass_of_methodNamed Bd.named) (name_of_methodNamed Bd.named Bd.method).1 Bd.returns Bd.notSynchronized hZ (by rw [← hh, Bd.state]; rfl)
/-- the end of a walk that may have interned -/
def SEnd (Z : State) (EL : List (String × Nat)) (s : State) (Qc : Option Value → Heap → List Loc → Prop) (kc ks : Nat) (o : Outcome) (U : State) : Prop :=
  ∃ v L, o = .returned v ∧ Qc v U.heap L ∧ CHr Z EL s.vm s.heap U.vm U.heap ∧ ReturnedEndW s o U L kc ks
/-- a contract of a method that may load String constants; sl: cells that no constant uses -/
def ConS (l : Launch) (Z : State) (EL : List (String × Nat)) (y : MethodName) (bytes : ByteArray) (maxL : Nat) (ret : Option FieldType) (rm : Room) (as' : Array Value) (h : Heap) (sl : List Addr) (Qc : Option Value → Heap → List Loc → Prop) : Prop :=
  ∀ ws : List Jvm.Cond, MetFree l y (head1 (Jvm.Cond.code y bytes maxL ret :: ws) rm) (fun a U => a = as' ∧ Z.Warmed39 U.vm ∧ U.heap = h ∧ CHv Z EL U.vm h ∧ ∀ x ∈ sl, Safe Z EL U.vm h x) (fun _ _ _ _ _ => True) (fun _ U o U' => SEnd Z EL U Qc rm.cells rm.slots o U')
theorem ConS.intro {l : Launch} {Z : State} {EL : List (String × Nat)} {y : MethodName} {bytes : ByteArray} {maxL : Nat} {ret : Option FieldType} {rm : Room} {as' : Array Value} {h : Heap} {sl : List Addr} {Qc : Option Value → Heap → List Loc → Prop} (pn : plainName y.cls = true)
    (body : ∀ (p : Program) (e : Env) (s : State) (m : MethodId) (below : List Frame) (meth : Method) (c : Code) (T : State) (v0 : Vm), Stand p l e rm (s.setVm v0) m as' below meth c T [] 0 0 → p.tables.exec = Jvm.exec → c.code = bytes → c.maxLocals = maxL →
      v0.findClass y.cls = some m.cls → meth.name = y.name → meth.sig.returnType = ret → meth.locks = false → Z.Warmed39 v0 → T.heap = h → s.Since v0 0 → CHr Z EL s.vm s.heap v0 h → (∀ x ∈ sl, Safe Z EL v0 h x) →
      Go p.tables e below (SEnd Z EL s Qc rm.cells rm.slots) (T.setTop (entryFrame m as' maxL))) : ConS l Z EL y bytes maxL ret rm as' h sl Qc := by
  intro ws
  refine MetFree.of_bodySF (plainFor_of_name pn) hisR ?_
  intro p e s m args below meth c s₁ Bd hml0 hP hK
  obtain ⟨rfl, hZ, hh, hC, hs⟩ := hP
  exact body p e s m below meth c s₁ s.vm (Stand.of_body Bd) Bd.exec Bd.bytes hml0 (findClass_of_methodNamed Bd.named) (name_of_methodNamed Bd.named Bd.method).1 Bd.returns Bd.notSynchronized hZ (by rw [← hh, Bd.state]; rfl) ((State.WarmedH.refl s).since 0) (by rw [hh]; exact CHr.refl hC) hs
section Ends
variable {p : Program} {l : Launch} {e : Env} {R : Room} {s : State} {m : MethodId} {args : Array Value} {below : List Frame} {meth : Method} {c : Code} {T : State} {locs : List Loc} {cells slots : Nat} {Z : State} {a0 : Array Value} {EL : List (String × Nat)} {h : Heap} {Qc : Option Value → Heap → List Loc → Prop} {kc ks pc : Nat} {Ls : Array Slot} {rest : List Value} {vm1 : Vm} {n1 : Nat}
/-- any plain end, its last step given -/
theorem endP (X : Stand p l e R s m args below meth c T locs cells slots) (hlk : meth.locks = false) {v : Option Value} (hv : meth.sig.returnType = none → v = none) {S : State}
    (hst : ∀ fs : List Frame, (∀ (f : JFrame) (acts : List Action), f.method = m → f.locked = none → f.entered = [] → (doReturn e (T.setTop f) acts v).1 = T.setFrames fs) → Steps p.tables e below S (T.setFrames fs))
    (hq : Qc v T.heap locs) (h1 : cells ≤ kc) (h2 : slots ≤ ks) : Go p.tables e below (PEnd s Qc kc ks) S := by
  obtain ⟨fs, hr, hrun, hended, hW, hsame⟩ := X.leave (v := v) hv hlk
  exact ⟨_, _, hst fs hr, hrun, hended, _, _, rfl, hq, ⟨_, rfl⟩, hW, hsame.mono h1 h2⟩
theorem mono_sbn {s t : State} {L : List Loc} {k n k' n' : Nat} {o : Outcome} (h : ReturnedEndW s o t L k n) (h1 : k ≤ k') (h2 : n ≤ n') : ReturnedEndW s o t L k' n' := ⟨h.1, h.2.1, h.2.2.1, h.2.2.2.mono h1 h2⟩
theorem endC (X : Stand p l e R (s.setVm vm1) m args below meth c T locs cells slots) (hlk : meth.locks = false) (hS : s.Since vm1 n1) (hk : n1 ≤ T.heap.size) (hZ : Z.Warmed39 vm1) (w : EW Z a0 EL) (C : CHr Z EL s.vm s.heap vm1 T.heap) {v : Option Value} (hv : meth.sig.returnType = none → v = none) {S : State}
    (hst : ∀ fs : List Frame, (∀ (f : JFrame) (acts : List Action), f.method = m → f.locked = none → f.entered = [] → (doReturn e (T.setTop f) acts v).1 = T.setFrames fs) → Steps p.tables e below S (T.setFrames fs))
    (hq : Qc v T.heap locs) (h1 : cells ≤ kc) (h2 : slots ≤ ks) : Go p.tables e below (SEnd Z EL s Qc kc ks) S := by
  obtain ⟨fs, hr, hrun, hended, hW⟩ := X.leaveW hS hk (v := v) hv hlk
  have hC : CHr Z EL s.vm s.heap T.vm T.heap := C.trans (CHv.at X hZ w C.1)
  exact ⟨_, _, hst fs hr, hrun, hended, _, _, rfl, hq, hC, mono_sbn hW h1 h2⟩
/-- the last steps -/
theorem lastV (X : Stand p l e R s m args below meth c T locs cells slots) (hx : p.tables.exec = Jvm.exec) (hret : meth.sig.returnType = none) (hd : decode c.code pc = .ok (.return_, 1)) : ∀ fs : List Frame, (∀ (f : JFrame) (acts : List Action), f.method = m → f.locked = none → f.entered = [] → (doReturn e (T.setTop f) acts none).1 = T.setFrames fs) →
    Steps p.tables e below (T.setTop (mkF m pc Ls [])) (T.setFrames fs) := fun fs hr => X.returnOut hx hret hd hr
theorem lastN (X : Stand p l e R s m args below meth c T locs cells slots) (hx : p.tables.exec = Jvm.exec) {z z' : Int32} {t : FieldType} (hret : meth.sig.returnType = some t) (ht : t = .boolean ∨ t = .byte ∨ t = .char ∨ t = .short) (hz : nar t z = z') (hd : decode c.code pc = .ok (.ireturn, 1)) :
    ∀ fs : List Frame, (∀ (f : JFrame) (acts : List Action), f.method = m → f.locked = none → f.entered = [] → (doReturn e (T.setTop f) acts (some (.int z'))).1 = T.setFrames fs) → Steps p.tables e below (T.setTop (mkF m pc Ls (.int z :: rest))) (T.setFrames fs) := fun fs hr => by
  subst hz; exact retN X hx hret ht hd hr
theorem lastI (X : Stand p l e R s m args below meth c T locs cells slots) (hx : p.tables.exec = Jvm.exec) {z : Int32} (hret : meth.sig.returnType = some .int) (hd : decode c.code pc = .ok (.ireturn, 1)) :
    ∀ fs : List Frame, (∀ (f : JFrame) (acts : List Action), f.method = m → f.locked = none → f.entered = [] → (doReturn e (T.setTop f) acts (some (.int z))).1 = T.setFrames fs) → Steps p.tables e below (T.setTop (mkF m pc Ls (.int z :: rest))) (T.setFrames fs) := fun fs hr =>
  retOut X hx hret rfl (Or.inl ⟨rfl, Or.inl rfl, z, rfl⟩) hd hr
theorem lastL (X : Stand p l e R s m args below meth c T locs cells slots) (hx : p.tables.exec = Jvm.exec) {z : Int64} (hret : meth.sig.returnType = some .long) (hd : decode c.code pc = .ok (.lreturn, 1)) :
    ∀ fs : List Frame, (∀ (f : JFrame) (acts : List Action), f.method = m → f.locked = none → f.entered = [] → (doReturn e (T.setTop f) acts (some (.long z))).1 = T.setFrames fs) → Steps p.tables e below (T.setTop (mkF m pc Ls (.long z :: rest))) (T.setFrames fs) := fun fs hr =>
  retOut X hx hret rfl (Or.inr (Or.inl ⟨rfl, rfl, z, rfl⟩)) hd hr
theorem lastA (X : Stand p l e R s m args below meth c T locs cells slots) (hx : p.tables.exec = Jvm.exec) {w : Value} {t : FieldType} (hret : meth.sig.returnType = some t) (ht : t.isReference = true) (hn : narrow t w = w) (hw : w.isRef = true) (hd : decode c.code pc = .ok (.areturn, 1)) :
    ∀ fs : List Frame, (∀ (f : JFrame) (acts : List Action), f.method = m → f.locked = none → f.entered = [] → (doReturn e (T.setTop f) acts (some w)).1 = T.setFrames fs) → Steps p.tables e below (T.setTop (mkF m pc Ls (w :: rest))) (T.setFrames fs) := fun fs hr =>
  retOut X hx hret hn (Or.inr (Or.inr (Or.inr (Or.inr ⟨rfl, ht, hw⟩)))) hd hr
end Ends
/-- what pays a call: from the heap h, k cells and n slots -/
abbrev BackQ (l : Launch) (R : Room) (p : Program) (e : Env) (below : List Frame) (s : State) (sargs : Array Value) (y : MethodName) (len W : Nat) (as' : Array Value) (h : Heap) (k n : Nat) (Q : Option Value → Heap → List Loc → Prop) : Prop :=
  Back l R p e below s sargs y len W (fun A a => a = as' ∧ A.U.heap = h ∧ A.cells + k ≤ R.cells ∧ A.slots + n ≤ R.slots) (fun A _ v B => ∃ L, Q v B.U.heap L ∧ B.locs = A.locs ++ L ∧ B.cells = A.cells + k ∧ B.slots = A.slots + n)
abbrev BackSQ (l : Launch) (R : Room) (p : Program) (e : Env) (below : List Frame) (s : State) (vm0 : Vm) (sargs : Array Value) (y : MethodName) (len W : Nat) (as' : Array Value) (h : Heap) (k n : Nat) (Z : State) (EL : List (String × Nat)) (Q : Option Value → Heap → List Loc → Prop) : Prop :=
  BackS l R p e below (s.setVm vm0) sargs y len W (fun A a => a = as' ∧ A.U.heap = h ∧ A.cells + k ≤ R.cells ∧ A.slots + n ≤ R.slots) (fun A _ v B => ∃ L, Q v B.U.heap L ∧ B.locs = A.locs ++ L ∧ B.cells = A.cells + k ∧ B.slots = A.slots + n ∧ CHr Z EL vm0 h B.U.vm B.U.heap)
section Calls
variable {p : Program} {l : Launch} {e : Env} {R : Room} {s : State} {m : MethodId} {args : Array Value} {below : List Frame} {meth : Method} {c : Code} {T : State} {locs : List Loc} {cells slots : Nat} {Z : State} {a0 : Array Value} {EL : List (String × Nat)} {h : Heap} {Qc : Option Value → Heap → List Loc → Prop} {vm0 : Vm} {n0 : Nat}
  {y z : MethodName} {bytes : ByteArray} {maxL : Nat} {ret : Option FieldType} {rm : Room} {as' : Array Value} {own C : String} {index count W k n len : Nat} {g : JFrame} {a : Addr} {argsL rest : List Value}
theorem Con.back (hM : Con l Z y bytes maxL ret rm as' h Qc) (hZ : Z.Warmed39 s.vm) (wc : (Jvm.Cond.code y bytes maxL ret).before a0 Z = true) (wz : (Jvm.Cond.initialized y.cls).before a0 Z = true) (hf : rm.frames + 1 ≤ R.frames) (hl : W + (maxL + 11) + rm.locals ≤ R.locals) :
    BackQ l R p e below s args y len W as' h rm.cells rm.slots Qc := backOf (Q := Qc) (hM []) hZ wc wz hf hl
theorem ConS.back {sl : List Addr} (hM : ConS l Z EL y bytes maxL ret rm as' h sl Qc) (hZ : Z.Warmed39 vm0) (wc : (Jvm.Cond.code y bytes maxL ret).before a0 Z = true) (wz : (Jvm.Cond.initialized y.cls).before a0 Z = true) (hf : rm.frames + 1 ≤ R.frames) (hl : W + (maxL + 11) + rm.locals ≤ R.locals) (hEL : EW Z a0 EL) (H : CHv Z EL vm0 h)
    (hs : ∀ x ∈ sl, Safe Z EL vm0 h x) (hlt : ∀ x ∈ sl, x < h.size) : BackSQ l R p e below s vm0 args y len W as' h rm.cells rm.slots Z EL Qc :=
  BackS.of_freeW (bytes := bytes) (maxL := maxL) (ret := ret) (E := fun _ first o t L k n => k = rm.cells ∧ n = rm.slots ∧ (∃ v, o = .returned v ∧ Qc v t.heap L) ∧ CHr Z EL first.vm first.heap t.vm t.heap) (hM []) hf hl
    (fun m meth c A a Y hp => have hU : Z.Warmed39 A.U.vm := wtrans (s := s.setVm vm0) hZ Y.warmed
      ⟨by show (Cond.and _ .tt).before a A.U = true; rw [Cond.before_and, mv hU wc]; rfl, mv hU wc, mv hU wz, hp.2.2.1, hp.2.2.2⟩)
    (fun m meth c A a g mk Y hp => ⟨hp.1, wtrans (s := s.setVm vm0) hZ Y.warmed, hp.2.1, (CHv.at Y hZ hEL H).1, fun x hx => (CHv.at Y hZ hEL H).safe (hlt x hx) (hs x hx)⟩) (fun _ _ _ _ _ _ _ _ _ => trivial)
    (fun _ _ _ _ ⟨v, L, h1, h2, h3, h4⟩ => ⟨L, _, _, h4, rfl, rfl, ⟨v, h1, h2⟩, h3⟩)
    (fun m meth c A a g mk v t L k n Y hp _ _ ⟨e1, e2, ⟨v', e3, e4⟩, e5⟩ => by
      cases e3; subst e1 e2
      refine ⟨L, e4, rfl, rfl, rfl, (CHv.at Y hZ hEL H).trans ?_⟩
      rw [← hp.2.1]; exact e5)
theorem callSp (X : Stand p l e R s m args below meth c T locs cells slots) (hx : p.tables.exec = Jvm.exec) (hZ : Z.Warmed39 s.vm) (hown : s.vm.findClass own = some m.cls) (hy1 : y.name = "<init>") (w1 : (Jvm.Cond.methodLink own index y).before a0 Z = true) (w2 : (Jvm.Cond.instanceMethod y).before a0 Z = true) (w3 : (Jvm.Cond.code y bytes maxL none).before a0 Z = true)
    (hyc : y.cls ≠ "java/lang/invoke/MethodHandle" ∧ y.cls ≠ "java/lang/invoke/VarHandle") (eT : T.heap = h) (hK : BackQ l R p e below s args y 3 W (.ref a :: argsL).toArray h k n Qc)
    (hg : g.method = m) (hsize : g.locals.size = c.maxLocals) (hlen : ∀ sig, parseMethodDescriptor y.desc = some sig → argsL.length = sig.parameters.length) (hstack : g.stack = argsL.reverse ++ .ref a :: rest) (hW : 2 * g.monitorRoom + (rest.map fun v => v.category).sum ≤ W)
    (hdg : decode c.code g.pc = .ok (.invokespecial index, 3)) (hc : cells + k ≤ R.cells) (hs : slots + n ≤ R.slots) :
    ∃ v T' L, Stand p l e R s m args below meth c T' (locs ++ L) (cells + k) (slots + n) ∧ Qc v T'.heap L ∧ Steps p.tables e below (T.setTop g) (T'.setTop { g with pc := g.pc + 3, stack := v.toList ++ rest }) := by
  obtain ⟨v, vm1, ⟨T', L', k', n'⟩, -, X', ⟨L, hQ, rfl, rfl, rfl⟩, st⟩ := X.specialBack hx hy1 hown (mvT hZ w1) (mvT hZ w2) (mvT hZ w3) hyc hK hg hsize (Steps.refl _) hlen hstack hW hdg (fun _ _ => ⟨rfl, eT, hc, hs⟩)
  exact ⟨v, T', L, X', hQ, st⟩
theorem callVi (X : Stand p l e R s m args below meth c T locs cells slots) (hx : p.tables.exec = Jvm.exec) (hZ : Z.Warmed39 s.vm) (hown : s.vm.findClass own = some m.cls) (w1 : (Jvm.Cond.methodLink own index y).before a0 Z = true) (w2 : (Jvm.Cond.declares y).before a0 Z = true) (nf : NotFace s y) (w4 : (Jvm.Cond.selects C y z).before a0 Z = true) (w5 : (Jvm.Cond.instanceMethod z).before a0 Z = true)
    (hyc : y.cls ≠ "java/lang/invoke/MethodHandle" ∧ y.cls ≠ "java/lang/invoke/VarHandle") (eT : T.heap = h) (E : Exa Z h a C) (hK : BackQ l R p e below s args z 3 W (.ref a :: argsL).toArray h k n Qc)
    (hg : g.method = m) (hsize : g.locals.size = c.maxLocals) (hlen : ∀ sig, parseMethodDescriptor y.desc = some sig → argsL.length = sig.parameters.length) (hstack : g.stack = argsL.reverse ++ .ref a :: rest) (hW : 2 * g.monitorRoom + (rest.map fun v => v.category).sum ≤ W)
    (hdg : decode c.code g.pc = .ok (.invokevirtual index, 3)) (hc : cells + k ≤ R.cells) (hs : slots + n ≤ R.slots) :
    ∃ v T' L, Stand p l e R s m args below meth c T' (locs ++ L) (cells + k) (slots + n) ∧ Qc v T'.heap L ∧ Steps p.tables e below (T.setTop g) (T'.setTop { g with pc := g.pc + 3, stack := v.toList ++ rest }) := by
  obtain ⟨cB, kB, q1, q2, q3⟩ := isOf hZ eT E
  obtain ⟨v, vm1, ⟨T', L', k', n'⟩, -, X', ⟨L, hQ, rfl, rfl, rfl⟩, st⟩ := X.virtualBack hx hown (mvT hZ w1) (mvT hZ w2) nf (mvT hZ w4) (mvT hZ w5) hyc hK q1 q3 hg hsize (Steps.refl _) hlen hstack hW hdg (fun _ _ => ⟨rfl, eT, hc, hs⟩)
  exact ⟨v, T', L, X', hQ, st⟩
theorem callSt (X : Stand p l e R s m args below meth c T locs cells slots) (hx : p.tables.exec = Jvm.exec) (hZ : Z.Warmed39 s.vm) (hown : s.vm.findClass own = some m.cls) (w1 : (Jvm.Cond.methodLink own index y).before a0 Z = true) (w2 : (Jvm.Cond.static y).before a0 Z = true) (w3 : (Jvm.Cond.initialized y.cls).before a0 Z = true) (w4 : (Jvm.Cond.code y bytes maxL ret).before a0 Z = true)
    (hyc : y.cls ≠ "java/lang/invoke/MethodHandle" ∧ y.cls ≠ "java/lang/invoke/VarHandle") (eT : T.heap = h) (hK : BackQ l R p e below s args y 3 W argsL.toArray h k n Qc)
    (hg : g.method = m) (hsize : g.locals.size = c.maxLocals) (hlen : ∀ sig, parseMethodDescriptor y.desc = some sig → argsL.length = sig.parameters.length) (hstack : g.stack = argsL.reverse ++ rest) (hW : 2 * g.monitorRoom + (rest.map fun v => v.category).sum ≤ W)
    (hdg : decode c.code g.pc = .ok (.invokestatic index, 3)) (hc : cells + k ≤ R.cells) (hs : slots + n ≤ R.slots) :
    ∃ v T' L, Stand p l e R s m args below meth c T' (locs ++ L) (cells + k) (slots + n) ∧ Qc v T'.heap L ∧ Steps p.tables e below (T.setTop g) (T'.setTop { g with pc := g.pc + 3, stack := v.toList ++ rest }) := by
  obtain ⟨v, vm1, ⟨T', L', k', n'⟩, -, X', ⟨L, hQ, rfl, rfl, rfl⟩, st⟩ := Jvm.LawKit.callS X hx hown (mvT hZ w1) (mvT hZ w2) (mvT hZ w3) (mvT hZ w4) hyc hK hg hsize hlen hstack hW hdg (fun _ _ => ⟨rfl, eT, hc, hs⟩)
  exact ⟨v, T', L, X', hQ, st _ (Steps.refl _)⟩
theorem callIf (X : Stand p l e R s m args below meth c T locs cells slots) (hx : p.tables.exec = Jvm.exec) (hZ : Z.Warmed39 s.vm) (hown : s.vm.findClass own = some m.cls) (w1 : (Jvm.Cond.methodLink own index y).before a0 Z = true) (w2 : (Jvm.Cond.declares y).before a0 Z = true) (w3 : (Jvm.Cond.interfaceMethod y.cls y.cls y.name y.desc).before a0 Z = true) (h3 : ((Jvm.Cond.interfaceMethod y.cls y.cls y.name y.desc).onTables && (Jvm.Cond.interfaceMethod y.cls y.cls y.name y.desc).keepsFace) = true) (w4 : (Jvm.Cond.selects C y z).before a0 Z = true) (w5 : (Jvm.Cond.instanceMethod z).before a0 Z = true)
    (w6 : (Jvm.Cond.publicMethod z).before a0 Z = true) (w7 : (Jvm.Cond.unhidden C y.name y.desc).before a0 Z = true) (w8 : (Jvm.Cond.castable C y.cls).before a0 Z = true)
    (hyc : y.cls ≠ "java/lang/invoke/MethodHandle" ∧ y.cls ≠ "java/lang/invoke/VarHandle") (eT : T.heap = h) (E : Exa Z h a C) (hK : BackQ l R p e below s args z 5 W (.ref a :: argsL).toArray h k n Qc)
    (hg : g.method = m) (hsize : g.locals.size = c.maxLocals) (hlen : ∀ sig, parseMethodDescriptor y.desc = some sig → argsL.length = sig.parameters.length) (hstack : g.stack = argsL.reverse ++ .ref a :: rest) (hW : 2 * g.monitorRoom + (rest.map fun v => v.category).sum ≤ W)
    (hdg : decode c.code g.pc = .ok (.invokeinterface index count, 5)) (hc : cells + k ≤ R.cells) (hs : slots + n ≤ R.slots) :
    ∃ v T' L, Stand p l e R s m args below meth c T' (locs ++ L) (cells + k) (slots + n) ∧ Qc v T'.heap L ∧ Steps p.tables e below (T.setTop g) (T'.setTop { g with pc := g.pc + 5, stack := v.toList ++ rest }) := by
  obtain ⟨cB, kB, q1, q2, q3⟩ := isOf hZ eT E
  obtain ⟨v, vm1, ⟨T', L', k', n'⟩, -, X', ⟨L, hQ, rfl, rfl, rfl⟩, st⟩ := X.interfaceBack hx hown (mvT hZ w1) (mvT hZ w2) (mvT hZ w3 h3) (mvT hZ w4) (mvT hZ w5) (mvT hZ w6) (mvT hZ w7) (mvT hZ w8) hyc hK q1 q2 q3 hg hsize (Steps.refl _) hlen hstack hW hdg (fun _ _ => ⟨rfl, eT, hc, hs⟩)
  exact ⟨v, T', L, X', hQ, st⟩
theorem callVu (X : Stand p l e R s m args below meth c T locs cells slots) (hx : p.tables.exec = Jvm.exec) (hZ : Z.Warmed39 s.vm) (hown : s.vm.findClass own = some m.cls) {owner : String} (w1 : (Jvm.Cond.methodLink own index y).before a0 Z = true) (w2 : (Jvm.Cond.sameMethod y.cls owner y.name y.desc).before a0 Z = true) (w3 : (Jvm.Cond.declares ⟨owner, y.name, y.desc⟩).before a0 Z = true) (hyc : owner ≠ "java/lang/invoke/MethodHandle" ∧ owner ≠ "java/lang/invoke/VarHandle") (w4 : (Jvm.Cond.selects C y z).before a0 Z = true) (w5 : (Jvm.Cond.instanceMethod z).before a0 Z = true)
    (eT : T.heap = h) (E : Exa Z h a C) (hK : BackQ l R p e below s args z 3 W (.ref a :: argsL).toArray h k n Qc)
    (hg : g.method = m) (hsize : g.locals.size = c.maxLocals) (hlen : ∀ sig, parseMethodDescriptor y.desc = some sig → argsL.length = sig.parameters.length) (hstack : g.stack = argsL.reverse ++ .ref a :: rest) (hW : 2 * g.monitorRoom + (rest.map fun v => v.category).sum ≤ W)
    (hdg : decode c.code g.pc = .ok (.invokevirtual index, 3)) (hc : cells + k ≤ R.cells) (hs : slots + n ≤ R.slots) :
    ∃ v T' L, Stand p l e R s m args below meth c T' (locs ++ L) (cells + k) (slots + n) ∧ Qc v T'.heap L ∧ Steps p.tables e below (T.setTop g) (T'.setTop { g with pc := g.pc + 3, stack := v.toList ++ rest }) := by
  obtain ⟨cB, kB, q1, q2, q3⟩ := isOf hZ eT E
  obtain ⟨v, vm1, ⟨T', L', k', n'⟩, -, X', ⟨L, hQ, rfl, rfl, rfl⟩, st⟩ := X.virtualBackUp hx hown (mvT hZ w1) (mvT hZ w2) (mvT hZ w3) hyc (mvT hZ w4) (mvT hZ w5) hK q1 q3 hg hsize (Steps.refl _) hlen hstack hW hdg (fun _ _ => ⟨rfl, eT, hc, hs⟩)
  exact ⟨v, T', L, X', hQ, st⟩
/-- an object of C is one of K, or it isn't, as the tables have it -/
theorem insEither (hZ : Z.Warmed39 s.vm) (hown : s.vm.findClass own = some m.cls) {K : String} (w : (Jvm.Cond.classLink own index K).before a0 Z = true) (E : Exa Z h a C) : Ins Z h a K true ∨ ∃ c t, Z.vm.findClass C = some c ∧ Z.vm.findClass K = some t ∧ Z.vm.assignable c t = false := by
  have hd : Z.vm.findClass own = some m.cls := by rw [← hZ.alike.findClass]; exact hown
  obtain ⟨t, ht, -⟩ := Cond.classLink_spec hd w {} rfl
  obtain ⟨cell, k, h1, h2, h3, h4, h5⟩ := E
  cases hq : Z.vm.assignable cell.cls t with
  | true => exact Or.inl ⟨cell, t, h1, ht, by simp [h4, hq]⟩
  | false => exact Or.inr ⟨cell.cls, t, h2, ht, hq⟩
/-- what stands behind a call that may have interned -/
def AfterS (p : Program) (l : Launch) (e : Env) (R : Room) (s : State) (m : MethodId) (args : Array Value) (below : List Frame) (meth : Method) (c : Code) (Z : State) (EL : List (String × Nat)) (own : String) (vm0 : Vm) (h : Heap) (T' : State) (locs : List Loc) (cells slots : Nat) : Prop :=
  Stand p l e R (s.setVm T'.vm) m args below meth c T' locs cells slots ∧ s.Since T'.vm T'.heap.size ∧ Z.Warmed39 T'.vm ∧ T'.vm.findClass own = some m.cls ∧ CHr Z EL vm0 h T'.vm T'.heap
theorem callSpS (X : Stand p l e R (s.setVm vm0) m args below meth c T locs cells slots) (hx : p.tables.exec = Jvm.exec) (hZ : Z.Warmed39 vm0) (hown : vm0.findClass own = some m.cls) (hS : s.Since vm0 n0) (hk : n0 ≤ h.size) (hy1 : y.name = "<init>") (w1 : (Jvm.Cond.methodLink own index y).before a0 Z = true) (w2 : (Jvm.Cond.instanceMethod y).before a0 Z = true) (w3 : (Jvm.Cond.code y bytes maxL none).before a0 Z = true)
    (hyc : y.cls ≠ "java/lang/invoke/MethodHandle" ∧ y.cls ≠ "java/lang/invoke/VarHandle") (eT : T.heap = h) (hK : BackSQ l R p e below s vm0 args y 3 W (.ref a :: argsL).toArray h k n Z EL Qc)
    (hg : g.method = m) (hsize : g.locals.size = c.maxLocals) (hlen : ∀ sig, parseMethodDescriptor y.desc = some sig → argsL.length = sig.parameters.length) (hstack : g.stack = argsL.reverse ++ .ref a :: rest) (hW : 2 * g.monitorRoom + (rest.map fun v => v.category).sum ≤ W)
    (hdg : decode c.code g.pc = .ok (.invokespecial index, 3)) (hc : cells + k ≤ R.cells) (hs : slots + n ≤ R.slots) :
    ∃ v T' L, AfterS p l e R s m args below meth c Z EL own vm0 h T' (locs ++ L) (cells + k) (slots + n) ∧ Qc v T'.heap L ∧ Steps p.tables e below (T.setTop g) (T'.setTop { g with pc := g.pc + 3, stack := v.toList ++ rest }) := by
  obtain ⟨v, vm1, ⟨T', L', k', n'⟩, -, X', h2, gr, ⟨L, hQ, rfl, rfl, rfl, hC⟩, st⟩ := X.specialBackS hx hy1 hown (mvT hZ w1) (mvT hZ w2) (mvT hZ w3) hyc hK hg hsize (Steps.refl _) hlen hstack hW hdg (fun _ _ => ⟨rfl, eT, hc, hs⟩)
  obtain ⟨b1, b2, b3, b4⟩ := rebS hS (eT ▸ hk) X' h2 gr hZ hown
  exact ⟨v, T', L, ⟨b1, b2, b3, b4, hC⟩, hQ, st⟩
theorem callViS (X : Stand p l e R (s.setVm vm0) m args below meth c T locs cells slots) (hx : p.tables.exec = Jvm.exec) (hZ : Z.Warmed39 vm0) (hown : vm0.findClass own = some m.cls) (hS : s.Since vm0 n0) (hk : n0 ≤ h.size) (w1 : (Jvm.Cond.methodLink own index y).before a0 Z = true) (w2 : (Jvm.Cond.declares y).before a0 Z = true) (nf : NotFace (s.setVm vm0) y) (w4 : (Jvm.Cond.selects C y z).before a0 Z = true) (w5 : (Jvm.Cond.instanceMethod z).before a0 Z = true)
    (hyc : y.cls ≠ "java/lang/invoke/MethodHandle" ∧ y.cls ≠ "java/lang/invoke/VarHandle") (eT : T.heap = h) (E : Exa Z h a C) (hK : BackSQ l R p e below s vm0 args z 3 W (.ref a :: argsL).toArray h k n Z EL Qc)
    (hg : g.method = m) (hsize : g.locals.size = c.maxLocals) (hlen : ∀ sig, parseMethodDescriptor y.desc = some sig → argsL.length = sig.parameters.length) (hstack : g.stack = argsL.reverse ++ .ref a :: rest) (hW : 2 * g.monitorRoom + (rest.map fun v => v.category).sum ≤ W)
    (hdg : decode c.code g.pc = .ok (.invokevirtual index, 3)) (hc : cells + k ≤ R.cells) (hs : slots + n ≤ R.slots) :
    ∃ v T' L, AfterS p l e R s m args below meth c Z EL own vm0 h T' (locs ++ L) (cells + k) (slots + n) ∧ Qc v T'.heap L ∧ Steps p.tables e below (T.setTop g) (T'.setTop { g with pc := g.pc + 3, stack := v.toList ++ rest }) := by
  obtain ⟨cB, kB, q1, q2, q3⟩ := isOf (s := s.setVm vm0) hZ eT E
  obtain ⟨v, vm1, ⟨T', L', k', n'⟩, -, X', h2, gr, ⟨L, hQ, rfl, rfl, rfl, hC⟩, st⟩ := X.virtualBackS hx hown (mvT hZ w1) (mvT hZ w2) nf (mvT hZ w4) (mvT hZ w5) hyc hK q1 q3 hg hsize (Steps.refl _) hlen hstack hW hdg (fun _ _ => ⟨rfl, eT, hc, hs⟩)
  obtain ⟨b1, b2, b3, b4⟩ := rebS hS (eT ▸ hk) X' h2 gr hZ hown
  exact ⟨v, T', L, ⟨b1, b2, b3, b4, hC⟩, hQ, st⟩
theorem callStS (X : Stand p l e R (s.setVm vm0) m args below meth c T locs cells slots) (hx : p.tables.exec = Jvm.exec) (hZ : Z.Warmed39 vm0) (hown : vm0.findClass own = some m.cls) (hS : s.Since vm0 n0) (hk : n0 ≤ h.size) (w1 : (Jvm.Cond.methodLink own index y).before a0 Z = true) (w2 : (Jvm.Cond.static y).before a0 Z = true) (w3 : (Jvm.Cond.initialized y.cls).before a0 Z = true) (w4 : (Jvm.Cond.code y bytes maxL ret).before a0 Z = true)
    (hyc : y.cls ≠ "java/lang/invoke/MethodHandle" ∧ y.cls ≠ "java/lang/invoke/VarHandle") (eT : T.heap = h) (hK : BackSQ l R p e below s vm0 args y 3 W argsL.toArray h k n Z EL Qc)
    (hg : g.method = m) (hsize : g.locals.size = c.maxLocals) (hlen : ∀ sig, parseMethodDescriptor y.desc = some sig → argsL.length = sig.parameters.length) (hstack : g.stack = argsL.reverse ++ rest) (hW : 2 * g.monitorRoom + (rest.map fun v => v.category).sum ≤ W)
    (hdg : decode c.code g.pc = .ok (.invokestatic index, 3)) (hc : cells + k ≤ R.cells) (hs : slots + n ≤ R.slots) :
    ∃ v T' L, AfterS p l e R s m args below meth c Z EL own vm0 h T' (locs ++ L) (cells + k) (slots + n) ∧ Qc v T'.heap L ∧ Steps p.tables e below (T.setTop g) (T'.setTop { g with pc := g.pc + 3, stack := v.toList ++ rest }) := by
  obtain ⟨v, vm1, ⟨T', L', k', n'⟩, -, X', h2, gr, ⟨L, hQ, rfl, rfl, rfl, hC⟩, st⟩ := callSS X hx hown (mvT hZ w1) (mvT hZ w2) (mvT hZ w3) (mvT hZ w4) hyc hK hg hsize hlen hstack hW hdg (fun _ _ => ⟨rfl, eT, hc, hs⟩)
  obtain ⟨b1, b2, b3, b4⟩ := rebS hS (eT ▸ hk) X' h2 gr hZ hown
  exact ⟨v, T', L, ⟨b1, b2, b3, b4, hC⟩, hQ, st⟩
end Calls
section Arrays
variable {p : Program} {l : Launch} {e : Env} {R : Room} {s : State} {m : MethodId} {args : Array Value} {below : List Frame} {meth : Method} {c : Code} {T : State} {locs : List Loc} {cells slots : Nat} {Z : State} {a0 : Array Value} {h : Heap} {g : JFrame} {rest : List Value} {a : Addr} {k : ClassId} {ty : FieldType} {z j x x' : Int32} {i : Nat} {vs : List Value} {d v : Value}
theorem newArr (X : Stand p l e R s m args below meth c T locs cells slots) (hx : p.tables.exec = Jvm.exec) (hZ : Z.Warmed39 s.vm) {aty : ArrayType} (w : (Jvm.Cond.arrayClass (newarray.typeOf aty)).before a0 Z = true) (eT : T.heap = h) (hg : g.method = m) (hd : decode c.code g.pc = .ok (.newarray aty, 2)) {n : Int32} (hs : g.stack = .int n :: rest)
    (hn : ¬ n < 0) {q : Nat} (hq : n.toNatClampNeg = q) (hb : q * 8 ≤ 536870912) (hc : cells + 1 ≤ R.cells) (hl : slots + q ≤ R.slots) :
    ∃ T' h' cA, Stand p l e R s m args below meth c T' locs (cells + 1) (slots + q) ∧ T'.heap = h' ∧ Ext h h' ∧ Arv Z h' h.size cA (newarray.typeOf aty) n (List.replicate q (defaultValue (newarray.typeOf aty))) (defaultValue (newarray.typeOf aty)) ∧
      ∀ target, Steps p.tables e below (T'.setTop { g with pc := g.pc + 2, stack := .ref h.size :: rest }) target → Steps p.tables e below (T.setTop g) target := by
  obtain ⟨T', h', cA, X', e', E', A', st⟩ := newP X hx hZ w eT hg hd hs hn (cap := q) (Nat.le_of_eq hq) hb hc hl
  exact ⟨T', h', cA, X', e', E', (Arv.new A' hn).pad (fun i => by have := pad_rep [] (defaultValue (newarray.typeOf aty)) q i; simpa using this), st⟩
theorem setC (X : Stand p l e R s m args below meth c T locs cells slots) (hx : p.tables.exec = Jvm.exec) (hZ : Z.Warmed39 s.vm) (eT : T.heap = h) (A : Arv Z h a k .char z vs d) (hj : j.toNatClampNeg = i) (h0 : ¬ j < 0) (hjz : j < z) (hi : i < vs.length) (hn : nar .char x = x') (hg : g.method = m) (hs : g.stack = .int x :: .int j :: .ref a :: rest) (hd : decode c.code g.pc = .ok (.castore, 1)) :
    ∃ T' h', Stand p l e R s m args below meth c T' (locs ++ [⟨a, i⟩]) cells slots ∧ T'.heap = h' ∧ Wr h h' a i (.int x') ∧ Arv Z h' a k .char z (vs.set i (.int x')) d ∧ ∀ target, Steps p.tables e below (T'.setTop { g with pc := g.pc + 1, stack := rest }) target → Steps p.tables e below (T.setTop g) target := by
  subst hj hn
  obtain ⟨cl, A1, A2, A3, A4, A5, A6⟩ := A
  obtain ⟨T', h', X', e', W', st⟩ := stC X hx hZ eT A1 (inb_of A3 ⟨h0, hjz⟩) hg hs hd
  exact ⟨T', h', X', e', W', Arv.set A1 A2 A3 A4 A5 A6 (fits_nar_char x) W' _ rfl hi, st⟩
theorem setB (X : Stand p l e R s m args below meth c T locs cells slots) (hx : p.tables.exec = Jvm.exec) (hZ : Z.Warmed39 s.vm) (eT : T.heap = h) (A : Arv Z h a k .byte z vs d) (hj : j.toNatClampNeg = i) (h0 : ¬ j < 0) (hjz : j < z) (hi : i < vs.length) (hn : nar .byte x = x') (hg : g.method = m) (hs : g.stack = .int x :: .int j :: .ref a :: rest) (hd : decode c.code g.pc = .ok (.bastore, 1)) :
    ∃ T' h', Stand p l e R s m args below meth c T' (locs ++ [⟨a, i⟩]) cells slots ∧ T'.heap = h' ∧ Wr h h' a i (.int x') ∧ Arv Z h' a k .byte z (vs.set i (.int x')) d ∧ ∀ target, Steps p.tables e below (T'.setTop { g with pc := g.pc + 1, stack := rest }) target → Steps p.tables e below (T.setTop g) target := by
  subst hj hn
  obtain ⟨cl, A1, A2, A3, A4, A5, A6⟩ := A
  obtain ⟨T', h', X', e', W', st⟩ := stB X hx hZ eT A1 (inb_of A3 ⟨h0, hjz⟩) hg hs hd
  exact ⟨T', h', X', e', W', Arv.set A1 A2 A3 A4 A5 A6 (fits_nar_byte x) W' _ rfl hi, st⟩
theorem setI (X : Stand p l e R s m args below meth c T locs cells slots) (hx : p.tables.exec = Jvm.exec) (hZ : Z.Warmed39 s.vm) (eT : T.heap = h) (A : Arv Z h a k .int z vs d) (hj : j.toNatClampNeg = i) (h0 : ¬ j < 0) (hjz : j < z) (hi : i < vs.length) (hg : g.method = m) (hs : g.stack = .int x :: .int j :: .ref a :: rest) (hd : decode c.code g.pc = .ok (.iastore, 1)) :
    ∃ T' h', Stand p l e R s m args below meth c T' (locs ++ [⟨a, i⟩]) cells slots ∧ T'.heap = h' ∧ Wr h h' a i (.int x) ∧ Arv Z h' a k .int z (vs.set i (.int x)) d ∧ ∀ target, Steps p.tables e below (T'.setTop { g with pc := g.pc + 1, stack := rest }) target → Steps p.tables e below (T.setTop g) target := by
  subst hj
  obtain ⟨cl, A1, A2, A3, A4, A5, A6⟩ := A
  obtain ⟨T', h', X', e', W', st⟩ := stI X hx hZ eT A1 (inb_of A3 ⟨h0, hjz⟩) hg hs hd
  exact ⟨T', h', X', e', W', Arv.set A1 A2 A3 A4 A5 A6 rfl W' _ rfl hi, st⟩
theorem setR (X : Stand p l e R s m args below meth c T locs cells slots) (hx : p.tables.exec = Jvm.exec) (hZ : Z.Warmed39 s.vm) (eT : T.heap = h) (A : Arv Z h a k ty z vs d) (hty : ty.isReference = true) (F : Sto Z h a v) (hfit : fits ty v = true) (hj : j.toNatClampNeg = i) (h0 : ¬ j < 0) (hjz : j < z) (hi : i < vs.length) (hg : g.method = m) (hs : g.stack = v :: .int j :: .ref a :: rest) (hd : decode c.code g.pc = .ok (.aastore, 1)) :
    ∃ T' h', Stand p l e R s m args below meth c T' (locs ++ [⟨a, i⟩]) cells slots ∧ T'.heap = h' ∧ Wr h h' a i v ∧ Arv Z h' a k ty z (vs.set i v) d ∧ ∀ target, Steps p.tables e below (T'.setTop { g with pc := g.pc + 1, stack := rest }) target → Steps p.tables e below (T.setTop g) target := by
  subst hj
  obtain ⟨cl, A1, A2, A3, A4, A5, A6⟩ := A
  obtain ⟨T', h', X', e', W', st⟩ := stR X hx hZ eT A1 (inb_of A3 ⟨h0, hjz⟩) hty F hg hs hd
  exact ⟨T', h', X', e', W', Arv.set A1 A2 A3 A4 A5 A6 hfit W' _ rfl hi, st⟩
theorem ldC (X : Stand p l e R s m args below meth c T locs cells slots) (hx : p.tables.exec = Jvm.exec) (hZ : Z.Warmed39 s.vm) (eT : T.heap = h) (A : Arv Z h a k .char z vs d) (hj : j.toNatClampNeg = i) (h0 : ¬ j < 0) (hjz : j < z) (hv : vs.getD i d = v) (hg : g.method = m) (hs : g.stack = .int j :: .ref a :: rest) (hd : decode c.code g.pc = .ok (.caload, 1)) :
    ∀ target, Steps p.tables e below (T.setTop { g with pc := g.pc + 1, stack := v :: rest }) target → Steps p.tables e below (T.setTop g) target := by
  subst hj hv
  obtain ⟨cl, A1, A2, A3, A4, A5, A6⟩ := A
  exact X.caload hx (by rw [eT]; exact A1.1) (State.isArrayOf_alike hZ.alike A1.2.1) A1.2.2 (inb_of A3 ⟨h0, hjz⟩) (A5.at (inb_of A3 ⟨h0, hjz⟩) rfl) hg hs hd
theorem ldB (X : Stand p l e R s m args below meth c T locs cells slots) (hx : p.tables.exec = Jvm.exec) (hZ : Z.Warmed39 s.vm) (eT : T.heap = h) (A : Arv Z h a k .byte z vs d) (hj : j.toNatClampNeg = i) (h0 : ¬ j < 0) (hjz : j < z) (hv : vs.getD i d = v) (hg : g.method = m) (hs : g.stack = .int j :: .ref a :: rest) (hd : decode c.code g.pc = .ok (.baload, 1)) :
    ∀ target, Steps p.tables e below (T.setTop { g with pc := g.pc + 1, stack := v :: rest }) target → Steps p.tables e below (T.setTop g) target := by
  subst hj hv
  obtain ⟨cl, A1, A2, A3, A4, A5, A6⟩ := A
  exact X.baloadBytes hx (by rw [eT]; exact A1.1) (State.isArrayOf_alike hZ.alike A1.2.1) A1.2.2 (inb_of A3 ⟨h0, hjz⟩) (A5.at (inb_of A3 ⟨h0, hjz⟩) rfl) hg hs hd
theorem ldI (X : Stand p l e R s m args below meth c T locs cells slots) (hx : p.tables.exec = Jvm.exec) (hZ : Z.Warmed39 s.vm) (eT : T.heap = h) (A : Arv Z h a k .int z vs d) (hj : j.toNatClampNeg = i) (h0 : ¬ j < 0) (hjz : j < z) (hv : vs.getD i d = v) (hg : g.method = m) (hs : g.stack = .int j :: .ref a :: rest) (hd : decode c.code g.pc = .ok (.iaload, 1)) :
    ∀ target, Steps p.tables e below (T.setTop { g with pc := g.pc + 1, stack := v :: rest }) target → Steps p.tables e below (T.setTop g) target := by
  subst hj hv
  obtain ⟨cl, A1, A2, A3, A4, A5, A6⟩ := A
  exact X.iaload hx (by rw [eT]; exact A1.1) (State.isArrayOf_alike hZ.alike A1.2.1) A1.2.2 (inb_of A3 ⟨h0, hjz⟩) (A5.at (inb_of A3 ⟨h0, hjz⟩) rfl) hg hs hd
theorem ldR (X : Stand p l e R s m args below meth c T locs cells slots) (hx : p.tables.exec = Jvm.exec) (hZ : Z.Warmed39 s.vm) (eT : T.heap = h) (A : Arv Z h a k ty z vs d) (hty : ty.isReference = true) (hj : j.toNatClampNeg = i) (h0 : ¬ j < 0) (hjz : j < z) (hv : vs.getD i d = v) (hg : g.method = m) (hs : g.stack = .int j :: .ref a :: rest) (hd : decode c.code g.pc = .ok (.aaload, 1)) :
    ∀ target, Steps p.tables e below (T.setTop { g with pc := g.pc + 1, stack := v :: rest }) target → Steps p.tables e below (T.setTop g) target := by
  subst hj hv
  obtain ⟨cl, A1, A2, A3, A4, A5, A6⟩ := A
  exact X.aaload hx (by rw [eT]; exact A1.1) (State.isArrayOf_alike hZ.alike A1.2.1) hty A1.2.2 (inb_of A3 ⟨h0, hjz⟩) (A5.at (inb_of A3 ⟨h0, hjz⟩) rfl) hg hs hd
theorem alen (X : Stand p l e R s m args below meth c T locs cells slots) (hx : p.tables.exec = Jvm.exec) (hZ : Z.Warmed39 s.vm) (eT : T.heap = h) (A : Arv Z h a k ty z vs d) (hg : g.method = m) (hs : g.stack = .ref a :: rest) (hd : decode c.code g.pc = .ok (.arraylength, 1)) :
    ∀ target, Steps p.tables e below (T.setTop { g with pc := g.pc + 1, stack := .int z :: rest }) target → Steps p.tables e below (T.setTop g) target := fun t ht => by
  obtain ⟨cl, A1, A2, A3, A4, A5, A6⟩ := A
  refine X.arraylength hx (by rw [eT]; exact A1.1) (State.isArrayOf_alike hZ.alike A1.2.1) hg hs hd t ?_
  rw [len_of A3 A4]; exact ht
end Arrays
end Jvm.OwnKit
namespace Jvm.OwnKit
open Jvm Jvm.ClassFile Sem Op Lib Jvm.Free Jvm.Stand Jvm.LawKit Jvm.RoadKit Bundle
section Steps1
variable {p : Program} {l : Launch} {e : Env} {R : Room} {s : State} {m : MethodId} {args : Array Value} {below : List Frame} {meth : Method} {c : Code} {T : State} {locs : List Loc} {cells slots : Nat} {Z : State} {a0 : Array Value} {EL : List (String × Nat)} {h : Heap} {Q : Outcome → State → Prop} {pc q : Nat} {Ls Ls' : Array Slot} {st : List Value} {x y z : Int32} {jx jy jz : Int64} {a : Addr} {v w : Value} {k : Nat} {k4 : Fin 4} {i : Nat} {vs : List Value} {d : Value} {ty : FieldType} {kc : ClassId} {own C O f dd : String} {index : Nat}
theorem aL (X : Stand p l e R s m args below meth c T locs cells slots) (hx : p.tables.exec = Jvm.exec) (hd : decode c.code pc = .ok (.aload_n k4, 1)) (hq : pc + 1 = q) (hl : Ls[k4.val]? = some (.val v)) (hv : v.isRef = true) (kk : Go p.tables e below Q (T.setTop (mkF m q Ls (v :: st)))) : Go p.tables e below Q (T.setTop (mkF m pc Ls st)) := by
  subst hq; exact Go.st (XS.aloadN X.here hx rfl hd hl hv) kk
theorem aLw (X : Stand p l e R s m args below meth c T locs cells slots) (hx : p.tables.exec = Jvm.exec) (hd : decode c.code pc = .ok (.aload k, 2)) (hq : pc + 2 = q) (hl : Ls[k]? = some (.val v)) (hv : v.isRef = true) (kk : Go p.tables e below Q (T.setTop (mkF m q Ls (v :: st)))) : Go p.tables e below Q (T.setTop (mkF m pc Ls st)) := by
  subst hq; exact Go.st (XS.aload X.here hx rfl hd hl hv) kk
theorem iL (X : Stand p l e R s m args below meth c T locs cells slots) (hx : p.tables.exec = Jvm.exec) (hd : decode c.code pc = .ok (.iload_n k4, 1)) (hq : pc + 1 = q) (hl : Ls[k4.val]? = some (.val (.int x))) (kk : Go p.tables e below Q (T.setTop (mkF m q Ls (.int x :: st)))) : Go p.tables e below Q (T.setTop (mkF m pc Ls st)) := by
  subst hq; exact Go.st (XS.iloadN X.here hx rfl hd hl) kk
theorem iLw (X : Stand p l e R s m args below meth c T locs cells slots) (hx : p.tables.exec = Jvm.exec) (hd : decode c.code pc = .ok (.iload k, 2)) (hq : pc + 2 = q) (hl : Ls[k]? = some (.val (.int x))) (kk : Go p.tables e below Q (T.setTop (mkF m q Ls (.int x :: st)))) : Go p.tables e below Q (T.setTop (mkF m pc Ls st)) := by
  subst hq; exact Go.st (XS.iload X.here hx rfl hd hl) kk
theorem lL (X : Stand p l e R s m args below meth c T locs cells slots) (hx : p.tables.exec = Jvm.exec) (hd : decode c.code pc = .ok (.lload_n k4, 1)) (hq : pc + 1 = q) (hl : Ls[k4.val]? = some (.val (.long jx))) (kk : Go p.tables e below Q (T.setTop (mkF m q Ls (.long jx :: st)))) : Go p.tables e below Q (T.setTop (mkF m pc Ls st)) := by
  subst hq; exact Go.st (XS.lloadN X.here hx rfl hd hl) kk
theorem lLw (X : Stand p l e R s m args below meth c T locs cells slots) (hx : p.tables.exec = Jvm.exec) (hd : decode c.code pc = .ok (.lload k, 2)) (hq : pc + 2 = q) (hl : Ls[k]? = some (.val (.long jx))) (kk : Go p.tables e below Q (T.setTop (mkF m q Ls (.long jx :: st)))) : Go p.tables e below Q (T.setTop (mkF m pc Ls st)) := by
  subst hq; exact Go.st (XS.lload X.here hx rfl hd hl) kk
theorem sI (X : Stand p l e R s m args below meth c T locs cells slots) (hx : p.tables.exec = Jvm.exec) (hd : decode c.code pc = .ok (.istore_n k4, 1)) (hq : pc + 1 = q) (hl : storeLocals Ls k4.val (.int x) = some Ls') (kk : Go p.tables e below Q (T.setTop (mkF m q Ls' st))) : Go p.tables e below Q (T.setTop (mkF m pc Ls (.int x :: st))) := by
  subst hq; exact Go.st (XS.istoreN X.here hx rfl hd rfl hl) kk
theorem sIw (X : Stand p l e R s m args below meth c T locs cells slots) (hx : p.tables.exec = Jvm.exec) (hd : decode c.code pc = .ok (.istore k, 2)) (hq : pc + 2 = q) (hl : storeLocals Ls k (.int x) = some Ls') (kk : Go p.tables e below Q (T.setTop (mkF m q Ls' st))) : Go p.tables e below Q (T.setTop (mkF m pc Ls (.int x :: st))) := by
  subst hq; exact Go.st (XS.istore X.here hx rfl hd rfl hl) kk
theorem sL (X : Stand p l e R s m args below meth c T locs cells slots) (hx : p.tables.exec = Jvm.exec) (hd : decode c.code pc = .ok (.lstore_n k4, 1)) (hq : pc + 1 = q) (hl : storeLocals Ls k4.val (.long jx) = some Ls') (kk : Go p.tables e below Q (T.setTop (mkF m q Ls' st))) : Go p.tables e below Q (T.setTop (mkF m pc Ls (.long jx :: st))) := by
  subst hq; exact Go.st (XS.lstoreN X.here hx rfl hd rfl hl) kk
theorem sLw (X : Stand p l e R s m args below meth c T locs cells slots) (hx : p.tables.exec = Jvm.exec) (hd : decode c.code pc = .ok (.lstore k, 2)) (hq : pc + 2 = q) (hl : storeLocals Ls k (.long jx) = some Ls') (kk : Go p.tables e below Q (T.setTop (mkF m q Ls' st))) : Go p.tables e below Q (T.setTop (mkF m pc Ls (.long jx :: st))) := by
  subst hq; exact Go.st (XS.lstore X.here hx rfl hd rfl hl) kk
theorem sA (X : Stand p l e R s m args below meth c T locs cells slots) (hx : p.tables.exec = Jvm.exec) (hd : decode c.code pc = .ok (.astore_n k4, 1)) (hq : pc + 1 = q) (hv : v.isRef = true) (hl : storeLocals Ls k4.val v = some Ls') (kk : Go p.tables e below Q (T.setTop (mkF m q Ls' st))) : Go p.tables e below Q (T.setTop (mkF m pc Ls (v :: st))) := by
  subst hq; exact Go.st (XS.astoreN X.here hx rfl hd rfl hv hl) kk
theorem sAw (X : Stand p l e R s m args below meth c T locs cells slots) (hx : p.tables.exec = Jvm.exec) (hd : decode c.code pc = .ok (.astore k, 2)) (hq : pc + 2 = q) (hv : v.isRef = true) (hl : storeLocals Ls k v = some Ls') (kk : Go p.tables e below Q (T.setTop (mkF m q Ls' st))) : Go p.tables e below Q (T.setTop (mkF m pc Ls (v :: st))) := by
  subst hq; exact Go.st (XS.astore X.here hx rfl hd rfl hv hl) kk
theorem cI (X : Stand p l e R s m args below meth c T locs cells slots) (hx : p.tables.exec = Jvm.exec) {j : Int} (hd : decode c.code pc = .ok (.iconst j, 1)) (hq : pc + 1 = q) (hz : Int32.ofInt j = z) (kk : Go p.tables e below Q (T.setTop (mkF m q Ls (.int z :: st)))) : Go p.tables e below Q (T.setTop (mkF m pc Ls st)) := by
  subst hq hz; exact Go.st (XS.iconst X.here hx rfl hd) kk
theorem bI (X : Stand p l e R s m args below meth c T locs cells slots) (hx : p.tables.exec = Jvm.exec) {j : Int} (hd : decode c.code pc = .ok (.bipush j, 2)) (hq : pc + 2 = q) (hz : (Int8.ofInt j).toInt32 = z) (kk : Go p.tables e below Q (T.setTop (mkF m q Ls (.int z :: st)))) : Go p.tables e below Q (T.setTop (mkF m pc Ls st)) := by
  subst hq hz; exact Go.st (XS.bipush X.here hx rfl hd) kk
theorem pI (X : Stand p l e R s m args below meth c T locs cells slots) (hx : p.tables.exec = Jvm.exec) {j : Int} (hd : decode c.code pc = .ok (.sipush j, 3)) (hq : pc + 3 = q) (hz : (Int16.ofInt j).toInt32 = z) (kk : Go p.tables e below Q (T.setTop (mkF m q Ls (.int z :: st)))) : Go p.tables e below Q (T.setTop (mkF m pc Ls st)) := by
  subst hq hz; exact Go.st (XS.sipush X.here hx rfl hd) kk
theorem cJ (X : Stand p l e R s m args below meth c T locs cells slots) (hx : p.tables.exec = Jvm.exec) {j2 : Fin 2} (hd : decode c.code pc = .ok (.lconst j2, 1)) (hq : pc + 1 = q) (hz : Int64.ofNat j2 = jz) (kk : Go p.tables e below Q (T.setTop (mkF m q Ls (.long jz :: st)))) : Go p.tables e below Q (T.setTop (mkF m pc Ls st)) := by
  subst hq hz; exact Go.st (XS.lconst X.here hx rfl hd) kk
theorem cN (X : Stand p l e R s m args below meth c T locs cells slots) (hx : p.tables.exec = Jvm.exec) (hd : decode c.code pc = .ok (.aconst_null, 1)) (hq : pc + 1 = q) (kk : Go p.tables e below Q (T.setTop (mkF m q Ls (.null :: st)))) : Go p.tables e below Q (T.setTop (mkF m pc Ls st)) := by
  subst hq; exact Go.st (XS.aconstNull X.here hx rfl hd) kk
theorem g_iadd (X : Stand p l e R s m args below meth c T locs cells slots) (hx : p.tables.exec = Jvm.exec) (hd : decode c.code pc = .ok (.iadd, 1)) (hq : pc + 1 = q) (hz : x + y = z) (kk : Go p.tables e below Q (T.setTop (mkF m q Ls (.int z :: st)))) : Go p.tables e below Q (T.setTop (mkF m pc Ls (.int y :: .int x :: st))) := by
  subst hq hz; exact Go.st (XS.iadd X.here hx rfl hd rfl) kk
theorem g_isub (X : Stand p l e R s m args below meth c T locs cells slots) (hx : p.tables.exec = Jvm.exec) (hd : decode c.code pc = .ok (.isub, 1)) (hq : pc + 1 = q) (hz : x - y = z) (kk : Go p.tables e below Q (T.setTop (mkF m q Ls (.int z :: st)))) : Go p.tables e below Q (T.setTop (mkF m pc Ls (.int y :: .int x :: st))) := by
  subst hq hz; exact Go.st (XS.isub X.here hx rfl hd rfl) kk
theorem g_imul (X : Stand p l e R s m args below meth c T locs cells slots) (hx : p.tables.exec = Jvm.exec) (hd : decode c.code pc = .ok (.imul, 1)) (hq : pc + 1 = q) (hz : x * y = z) (kk : Go p.tables e below Q (T.setTop (mkF m q Ls (.int z :: st)))) : Go p.tables e below Q (T.setTop (mkF m pc Ls (.int y :: .int x :: st))) := by
  subst hq hz; exact Go.st (XS.imul X.here hx rfl hd rfl) kk
theorem g_iand (X : Stand p l e R s m args below meth c T locs cells slots) (hx : p.tables.exec = Jvm.exec) (hd : decode c.code pc = .ok (.iand, 1)) (hq : pc + 1 = q) (hz : x &&& y = z) (kk : Go p.tables e below Q (T.setTop (mkF m q Ls (.int z :: st)))) : Go p.tables e below Q (T.setTop (mkF m pc Ls (.int y :: .int x :: st))) := by
  subst hq hz; exact Go.st (XS.iand X.here hx rfl hd rfl) kk
theorem g_ior (X : Stand p l e R s m args below meth c T locs cells slots) (hx : p.tables.exec = Jvm.exec) (hd : decode c.code pc = .ok (.ior, 1)) (hq : pc + 1 = q) (hz : x ||| y = z) (kk : Go p.tables e below Q (T.setTop (mkF m q Ls (.int z :: st)))) : Go p.tables e below Q (T.setTop (mkF m pc Ls (.int y :: .int x :: st))) := by
  subst hq hz; exact Go.st (XS.ior X.here hx rfl hd rfl) kk
theorem g_ixor (X : Stand p l e R s m args below meth c T locs cells slots) (hx : p.tables.exec = Jvm.exec) (hd : decode c.code pc = .ok (.ixor, 1)) (hq : pc + 1 = q) (hz : x ^^^ y = z) (kk : Go p.tables e below Q (T.setTop (mkF m q Ls (.int z :: st)))) : Go p.tables e below Q (T.setTop (mkF m pc Ls (.int y :: .int x :: st))) := by
  subst hq hz; exact Go.st (XS.ixor X.here hx rfl hd rfl) kk
theorem g_ishl (X : Stand p l e R s m args below meth c T locs cells slots) (hx : p.tables.exec = Jvm.exec) (hd : decode c.code pc = .ok (.ishl, 1)) (hq : pc + 1 = q) (hz : x <<< (y &&& 31) = z) (kk : Go p.tables e below Q (T.setTop (mkF m q Ls (.int z :: st)))) : Go p.tables e below Q (T.setTop (mkF m pc Ls (.int y :: .int x :: st))) := by
  subst hq hz; exact Go.st (XS.ishl X.here hx rfl hd rfl) kk
theorem g_ishr (X : Stand p l e R s m args below meth c T locs cells slots) (hx : p.tables.exec = Jvm.exec) (hd : decode c.code pc = .ok (.ishr, 1)) (hq : pc + 1 = q) (hz : x >>> (y &&& 31) = z) (kk : Go p.tables e below Q (T.setTop (mkF m q Ls (.int z :: st)))) : Go p.tables e below Q (T.setTop (mkF m pc Ls (.int y :: .int x :: st))) := by
  subst hq hz; exact Go.st (XS.ishr X.here hx rfl hd rfl) kk
theorem g_iushr (X : Stand p l e R s m args below meth c T locs cells slots) (hx : p.tables.exec = Jvm.exec) (hd : decode c.code pc = .ok (.iushr, 1)) (hq : pc + 1 = q) (hz : (x.toUInt32 >>> (y &&& 31).toUInt32).toInt32 = z) (kk : Go p.tables e below Q (T.setTop (mkF m q Ls (.int z :: st)))) : Go p.tables e below Q (T.setTop (mkF m pc Ls (.int y :: .int x :: st))) := by
  subst hq hz; exact Go.st (XS.iushr X.here hx rfl hd rfl) kk
theorem g_irem (X : Stand p l e R s m args below meth c T locs cells slots) (hx : p.tables.exec = Jvm.exec) (hd : decode c.code pc = .ok (.irem, 1)) (hq : pc + 1 = q) (hy : y ≠ 0) (hz : x % y = z) (kk : Go p.tables e below Q (T.setTop (mkF m q Ls (.int z :: st)))) : Go p.tables e below Q (T.setTop (mkF m pc Ls (.int y :: .int x :: st))) := by
  subst hq hz; exact Go.st (iremM X hx rfl hd rfl hy) kk
theorem g_idiv (X : Stand p l e R s m args below meth c T locs cells slots) (hx : p.tables.exec = Jvm.exec) (hd : decode c.code pc = .ok (.idiv, 1)) (hq : pc + 1 = q) (hy : y ≠ 0) (hz : x / y = z) (kk : Go p.tables e below Q (T.setTop (mkF m q Ls (.int z :: st)))) : Go p.tables e below Q (T.setTop (mkF m pc Ls (.int y :: .int x :: st))) := by
  subst hq hz; exact Go.st (XS.idiv X.here hx rfl hd rfl hy) kk
theorem g_ladd (X : Stand p l e R s m args below meth c T locs cells slots) (hx : p.tables.exec = Jvm.exec) (hd : decode c.code pc = .ok (.ladd, 1)) (hq : pc + 1 = q) (hz : jx + jy = jz) (kk : Go p.tables e below Q (T.setTop (mkF m q Ls (.long jz :: st)))) : Go p.tables e below Q (T.setTop (mkF m pc Ls (.long jy :: .long jx :: st))) := by
  subst hq hz; exact Go.st (XS.ladd X.here hx rfl hd rfl) kk
theorem g_lsub (X : Stand p l e R s m args below meth c T locs cells slots) (hx : p.tables.exec = Jvm.exec) (hd : decode c.code pc = .ok (.lsub, 1)) (hq : pc + 1 = q) (hz : jx - jy = jz) (kk : Go p.tables e below Q (T.setTop (mkF m q Ls (.long jz :: st)))) : Go p.tables e below Q (T.setTop (mkF m pc Ls (.long jy :: .long jx :: st))) := by
  subst hq hz; exact Go.st (XS.lsub X.here hx rfl hd rfl) kk
theorem g_lmul (X : Stand p l e R s m args below meth c T locs cells slots) (hx : p.tables.exec = Jvm.exec) (hd : decode c.code pc = .ok (.lmul, 1)) (hq : pc + 1 = q) (hz : jx * jy = jz) (kk : Go p.tables e below Q (T.setTop (mkF m q Ls (.long jz :: st)))) : Go p.tables e below Q (T.setTop (mkF m pc Ls (.long jy :: .long jx :: st))) := by
  subst hq hz; exact Go.st (XS.lmul X.here hx rfl hd rfl) kk
theorem g_land (X : Stand p l e R s m args below meth c T locs cells slots) (hx : p.tables.exec = Jvm.exec) (hd : decode c.code pc = .ok (.land, 1)) (hq : pc + 1 = q) (hz : jx &&& jy = jz) (kk : Go p.tables e below Q (T.setTop (mkF m q Ls (.long jz :: st)))) : Go p.tables e below Q (T.setTop (mkF m pc Ls (.long jy :: .long jx :: st))) := by
  subst hq hz; exact Go.st (XS.land X.here hx rfl hd rfl) kk
theorem g_lor (X : Stand p l e R s m args below meth c T locs cells slots) (hx : p.tables.exec = Jvm.exec) (hd : decode c.code pc = .ok (.lor, 1)) (hq : pc + 1 = q) (hz : jx ||| jy = jz) (kk : Go p.tables e below Q (T.setTop (mkF m q Ls (.long jz :: st)))) : Go p.tables e below Q (T.setTop (mkF m pc Ls (.long jy :: .long jx :: st))) := by
  subst hq hz; exact Go.st (XS.lor X.here hx rfl hd rfl) kk
theorem g_lxor (X : Stand p l e R s m args below meth c T locs cells slots) (hx : p.tables.exec = Jvm.exec) (hd : decode c.code pc = .ok (.lxor, 1)) (hq : pc + 1 = q) (hz : jx ^^^ jy = jz) (kk : Go p.tables e below Q (T.setTop (mkF m q Ls (.long jz :: st)))) : Go p.tables e below Q (T.setTop (mkF m pc Ls (.long jy :: .long jx :: st))) := by
  subst hq hz; exact Go.st (XS.lxor X.here hx rfl hd rfl) kk
theorem g_ldiv (X : Stand p l e R s m args below meth c T locs cells slots) (hx : p.tables.exec = Jvm.exec) (hd : decode c.code pc = .ok (.ldiv, 1)) (hq : pc + 1 = q) (hy : jy ≠ 0) (hz : jx / jy = jz) (kk : Go p.tables e below Q (T.setTop (mkF m q Ls (.long jz :: st)))) : Go p.tables e below Q (T.setTop (mkF m pc Ls (.long jy :: .long jx :: st))) := by
  subst hq hz; exact Go.st (XS.ldiv X.here hx rfl hd rfl hy) kk
theorem g_lrem (X : Stand p l e R s m args below meth c T locs cells slots) (hx : p.tables.exec = Jvm.exec) (hd : decode c.code pc = .ok (.lrem, 1)) (hq : pc + 1 = q) (hy : jy ≠ 0) (hz : jx - (jx / jy) * jy = jz) (kk : Go p.tables e below Q (T.setTop (mkF m q Ls (.long jz :: st)))) : Go p.tables e below Q (T.setTop (mkF m pc Ls (.long jy :: .long jx :: st))) := by
  subst hq hz; exact Go.st (XS.lrem X.here hx rfl hd rfl hy) kk
theorem g_lshl (X : Stand p l e R s m args below meth c T locs cells slots) (hx : p.tables.exec = Jvm.exec) (hd : decode c.code pc = .ok (.lshl, 1)) (hq : pc + 1 = q) (hz : jx <<< (y &&& 0x3f).toInt64 = jz) (kk : Go p.tables e below Q (T.setTop (mkF m q Ls (.long jz :: st)))) : Go p.tables e below Q (T.setTop (mkF m pc Ls (.int y :: .long jx :: st))) := by
  subst hq hz; exact Go.st (XS.lshl X.here hx rfl hd rfl) kk
theorem g_lshr (X : Stand p l e R s m args below meth c T locs cells slots) (hx : p.tables.exec = Jvm.exec) (hd : decode c.code pc = .ok (.lshr, 1)) (hq : pc + 1 = q) (hz : jx >>> (y &&& 0x3f).toInt64 = jz) (kk : Go p.tables e below Q (T.setTop (mkF m q Ls (.long jz :: st)))) : Go p.tables e below Q (T.setTop (mkF m pc Ls (.int y :: .long jx :: st))) := by
  subst hq hz; exact Go.st (XS.lshr X.here hx rfl hd rfl) kk
theorem g_lushr (X : Stand p l e R s m args below meth c T locs cells slots) (hx : p.tables.exec = Jvm.exec) (hd : decode c.code pc = .ok (.lushr, 1)) (hq : pc + 1 = q) (hz : (jx.toUInt64 >>> (y &&& 0x3f).toInt64.toUInt64).toInt64 = jz) (kk : Go p.tables e below Q (T.setTop (mkF m q Ls (.long jz :: st)))) : Go p.tables e below Q (T.setTop (mkF m pc Ls (.int y :: .long jx :: st))) := by
  subst hq hz; exact Go.st (XS.lushr X.here hx rfl hd rfl) kk
theorem g_lcmp (X : Stand p l e R s m args below meth c T locs cells slots) (hx : p.tables.exec = Jvm.exec) (hd : decode c.code pc = .ok (.lcmp, 1)) (hq : pc + 1 = q) (hz : lcmpW jx jy = z) (kk : Go p.tables e below Q (T.setTop (mkF m q Ls (.int z :: st)))) : Go p.tables e below Q (T.setTop (mkF m pc Ls (.long jy :: .long jx :: st))) := by
  subst hq hz; exact Go.st (XS.lcmp X.here hx rfl hd rfl) kk
theorem g_ineg (X : Stand p l e R s m args below meth c T locs cells slots) (hx : p.tables.exec = Jvm.exec) (hd : decode c.code pc = .ok (.ineg, 1)) (hq : pc + 1 = q) (hz : -x = z) (kk : Go p.tables e below Q (T.setTop (mkF m q Ls (.int z :: st)))) : Go p.tables e below Q (T.setTop (mkF m pc Ls (.int x :: st))) := by
  subst hq hz; exact Go.st (XS.ineg X.here hx rfl hd rfl) kk
theorem g_i2b (X : Stand p l e R s m args below meth c T locs cells slots) (hx : p.tables.exec = Jvm.exec) (hd : decode c.code pc = .ok (.i2b, 1)) (hq : pc + 1 = q) (hz : x.toInt8.toInt32 = z) (kk : Go p.tables e below Q (T.setTop (mkF m q Ls (.int z :: st)))) : Go p.tables e below Q (T.setTop (mkF m pc Ls (.int x :: st))) := by
  subst hq hz; exact Go.st (XS.i2b X.here hx rfl hd rfl) kk
theorem g_i2c (X : Stand p l e R s m args below meth c T locs cells slots) (hx : p.tables.exec = Jvm.exec) (hd : decode c.code pc = .ok (.i2c, 1)) (hq : pc + 1 = q) (hz : x.toUInt32.toUInt16.toUInt32.toInt32 = z) (kk : Go p.tables e below Q (T.setTop (mkF m q Ls (.int z :: st)))) : Go p.tables e below Q (T.setTop (mkF m pc Ls (.int x :: st))) := by
  subst hq hz; exact Go.st (XS.i2c X.here hx rfl hd rfl) kk
theorem g_i2s (X : Stand p l e R s m args below meth c T locs cells slots) (hx : p.tables.exec = Jvm.exec) (hd : decode c.code pc = .ok (.i2s, 1)) (hq : pc + 1 = q) (hz : x.toInt16.toInt32 = z) (kk : Go p.tables e below Q (T.setTop (mkF m q Ls (.int z :: st)))) : Go p.tables e below Q (T.setTop (mkF m pc Ls (.int x :: st))) := by
  subst hq hz; exact Go.st (XS.i2s X.here hx rfl hd rfl) kk
theorem g_i2l (X : Stand p l e R s m args below meth c T locs cells slots) (hx : p.tables.exec = Jvm.exec) (hd : decode c.code pc = .ok (.i2l, 1)) (hq : pc + 1 = q) (hz : x.toInt64 = jz) (kk : Go p.tables e below Q (T.setTop (mkF m q Ls (.long jz :: st)))) : Go p.tables e below Q (T.setTop (mkF m pc Ls (.int x :: st))) := by
  subst hq hz; exact Go.st (XS.i2l X.here hx rfl hd rfl) kk
theorem g_l2i (X : Stand p l e R s m args below meth c T locs cells slots) (hx : p.tables.exec = Jvm.exec) (hd : decode c.code pc = .ok (.l2i, 1)) (hq : pc + 1 = q) (hz : jx.toInt32 = z) (kk : Go p.tables e below Q (T.setTop (mkF m q Ls (.int z :: st)))) : Go p.tables e below Q (T.setTop (mkF m pc Ls (.long jx :: st))) := by
  subst hq hz; exact Go.st (XS.l2i X.here hx rfl hd rfl) kk
theorem g_lneg (X : Stand p l e R s m args below meth c T locs cells slots) (hx : p.tables.exec = Jvm.exec) (hd : decode c.code pc = .ok (.lneg, 1)) (hq : pc + 1 = q) (hz : -jx = jz) (kk : Go p.tables e below Q (T.setTop (mkF m q Ls (.long jz :: st)))) : Go p.tables e below Q (T.setTop (mkF m pc Ls (.long jx :: st))) := by
  subst hq hz; exact Go.st (XS.lneg X.here hx rfl hd rfl) kk
theorem g_iinc (X : Stand p l e R s m args below meth c T locs cells slots) (hx : p.tables.exec = Jvm.exec) {j : Int} (hd : decode c.code pc = .ok (.iinc k j, 3)) (hq : pc + 3 = q) (hl : Ls[k]? = some (.val (.int x))) (hz : x + Int32.ofInt j = z) (hl2 : storeLocals Ls k (.int z) = some Ls') (kk : Go p.tables e below Q (T.setTop (mkF m q Ls' st))) : Go p.tables e below Q (T.setTop (mkF m pc Ls st)) := by
  subst hq hz; exact Go.st (XS.iinc X.here hx rfl hd hl hl2) kk
theorem g_dup (X : Stand p l e R s m args below meth c T locs cells slots) (hx : p.tables.exec = Jvm.exec) (hd : decode c.code pc = .ok (.dup, 1)) (hq : pc + 1 = q) (hc : v.category = 1) (kk : Go p.tables e below Q (T.setTop (mkF m q Ls (v :: v :: st)))) : Go p.tables e below Q (T.setTop (mkF m pc Ls (v :: st))) := by
  subst hq; exact Go.st (XS.dup X.here hx rfl hd rfl hc) kk
theorem g_dupX1 (X : Stand p l e R s m args below meth c T locs cells slots) (hx : p.tables.exec = Jvm.exec) (hd : decode c.code pc = .ok (.dup_x1, 1)) (hq : pc + 1 = q) (hc : v.category = 1) (hc2 : w.category = 1) (kk : Go p.tables e below Q (T.setTop (mkF m q Ls (v :: w :: v :: st)))) : Go p.tables e below Q (T.setTop (mkF m pc Ls (v :: w :: st))) := by
  subst hq; exact Go.st (XS.dupX1 X.here hx rfl hd rfl hc hc2) kk
theorem g_dup2 (X : Stand p l e R s m args below meth c T locs cells slots) (hx : p.tables.exec = Jvm.exec) (hd : decode c.code pc = .ok (.dup2, 1)) (hq : pc + 1 = q) (hc : v.category = 1) (hc2 : w.category = 1) (kk : Go p.tables e below Q (T.setTop (mkF m q Ls (v :: w :: v :: w :: st)))) : Go p.tables e below Q (T.setTop (mkF m pc Ls (v :: w :: st))) := by
  subst hq; exact Go.st (Jvm.Free.XT.dup2 X.here hx rfl hd rfl hc hc2) kk
theorem g_dup2L (X : Stand p l e R s m args below meth c T locs cells slots) (hx : p.tables.exec = Jvm.exec) (hd : decode c.code pc = .ok (.dup2, 1)) (hq : pc + 1 = q) (kk : Go p.tables e below Q (T.setTop (mkF m q Ls (.long jx :: .long jx :: st)))) : Go p.tables e below Q (T.setTop (mkF m pc Ls (.long jx :: st))) := by
  subst hq; exact Go.st (Jvm.Free.XT.dup2L X.here hx rfl hd rfl) kk
theorem g_pop (X : Stand p l e R s m args below meth c T locs cells slots) (hx : p.tables.exec = Jvm.exec) (hd : decode c.code pc = .ok (.pop, 1)) (hq : pc + 1 = q) (hc : v.category = 1) (kk : Go p.tables e below Q (T.setTop (mkF m q Ls st))) : Go p.tables e below Q (T.setTop (mkF m pc Ls (v :: st))) := by
  subst hq; exact Go.st (XS.pop X.here hx rfl hd rfl hc) kk
theorem g_goto (X : Stand p l e R s m args below meth c T locs cells slots) (hx : p.tables.exec = Jvm.exec) {j : Int} (hd : decode c.code pc = .ok (.goto j, 3)) (ho : 0 ≤ (pc : Int) + j) (hp : ((pc : Int) + j).toNat = q) (kk : Go p.tables e below Q (T.setTop (mkF m q Ls st))) : Go p.tables e below Q (T.setTop (mkF m pc Ls st)) := by
  exact Go.st (XS.goto X.here hx rfl rfl hd ho hp) kk
theorem ifY (X : Stand p l e R s m args below meth c T locs cells slots) (hx : p.tables.exec = Jvm.exec) {j : Int} {cd : ClassFile.Cond} (hd : decode c.code pc = .ok (.ifCond cd j, 3)) (ho : 0 ≤ (pc : Int) + j) (hp : ((pc : Int) + j).toNat = q) (hc : ifCond.holds cd x = true) (kk : Go p.tables e below Q (T.setTop (mkF m q Ls st))) : Go p.tables e below Q (T.setTop (mkF m pc Ls (.int x :: st))) := by
  exact Go.st (XS.ifYes X.here hx rfl rfl hd rfl hc ho hp) kk
theorem ifN (X : Stand p l e R s m args below meth c T locs cells slots) (hx : p.tables.exec = Jvm.exec) {j : Int} {cd : ClassFile.Cond} (hd : decode c.code pc = .ok (.ifCond cd j, 3)) (hq : pc + 3 = q) (hc : ifCond.holds cd x = false) (kk : Go p.tables e below Q (T.setTop (mkF m q Ls st))) : Go p.tables e below Q (T.setTop (mkF m pc Ls (.int x :: st))) := by
  subst hq; exact Go.st (XS.ifNo X.here hx rfl hd rfl hc) kk
theorem icY (X : Stand p l e R s m args below meth c T locs cells slots) (hx : p.tables.exec = Jvm.exec) {j : Int} {cd : ClassFile.Cond} (hd : decode c.code pc = .ok (.if_icmp cd j, 3)) (ho : 0 ≤ (pc : Int) + j) (hp : ((pc : Int) + j).toNat = q) (hc : if_icmp.holds cd x y = true) (kk : Go p.tables e below Q (T.setTop (mkF m q Ls st))) : Go p.tables e below Q (T.setTop (mkF m pc Ls (.int y :: .int x :: st))) := by
  exact Go.st (XS.icmpYes X.here hx rfl rfl hd rfl hc ho hp) kk
theorem icN (X : Stand p l e R s m args below meth c T locs cells slots) (hx : p.tables.exec = Jvm.exec) {j : Int} {cd : ClassFile.Cond} (hd : decode c.code pc = .ok (.if_icmp cd j, 3)) (hq : pc + 3 = q) (hc : if_icmp.holds cd x y = false) (kk : Go p.tables e below Q (T.setTop (mkF m q Ls st))) : Go p.tables e below Q (T.setTop (mkF m pc Ls (.int y :: .int x :: st))) := by
  subst hq; exact Go.st (XS.icmpNo X.here hx rfl hd rfl hc) kk
theorem nlY (X : Stand p l e R s m args below meth c T locs cells slots) (hx : p.tables.exec = Jvm.exec) {j : Int} (hd : decode c.code pc = .ok (.ifnull j, 3)) (ho : 0 ≤ (pc : Int) + j) (hp : ((pc : Int) + j).toNat = q) (kk : Go p.tables e below Q (T.setTop (mkF m q Ls st))) : Go p.tables e below Q (T.setTop (mkF m pc Ls (.null :: st))) := by
  exact Go.st (XS.ifnullYes X.here hx rfl rfl hd rfl ho hp) kk
theorem nlN (X : Stand p l e R s m args below meth c T locs cells slots) (hx : p.tables.exec = Jvm.exec) {j : Int} (hd : decode c.code pc = .ok (.ifnull j, 3)) (hq : pc + 3 = q) (kk : Go p.tables e below Q (T.setTop (mkF m q Ls st))) : Go p.tables e below Q (T.setTop (mkF m pc Ls (.ref a :: st))) := by
  subst hq; exact Go.st (XS.ifnullNo X.here hx rfl hd rfl) kk
theorem nnY (X : Stand p l e R s m args below meth c T locs cells slots) (hx : p.tables.exec = Jvm.exec) {j : Int} (hd : decode c.code pc = .ok (.ifnonnull j, 3)) (ho : 0 ≤ (pc : Int) + j) (hp : ((pc : Int) + j).toNat = q) (kk : Go p.tables e below Q (T.setTop (mkF m q Ls st))) : Go p.tables e below Q (T.setTop (mkF m pc Ls (.ref a :: st))) := by
  exact Go.st (XS.ifnonnullYes X.here hx rfl rfl hd rfl ho hp) kk
theorem nnN (X : Stand p l e R s m args below meth c T locs cells slots) (hx : p.tables.exec = Jvm.exec) {j : Int} (hd : decode c.code pc = .ok (.ifnonnull j, 3)) (hq : pc + 3 = q) (kk : Go p.tables e below Q (T.setTop (mkF m q Ls st))) : Go p.tables e below Q (T.setTop (mkF m pc Ls (.null :: st))) := by
  subst hq; exact Go.st (XS.ifnonnullNo X.here hx rfl hd rfl) kk
theorem g_acmp (X : Stand p l e R s m args below meth c T locs cells slots) (hx : p.tables.exec = Jvm.exec) {j : Int} {cd : ACond} (hd : decode c.code pc = .ok (.if_acmp cd j, 3)) (h1 : v.isRef = true) (h2 : w.isRef = true) {same : Bool} (hs : decide (v = w) = same) (ho : 0 ≤ (pc : Int) + j) (hp : q = if acV cd same = true then ((pc : Int) + j).toNat else pc + 3) (kk : Go p.tables e below Q (T.setTop (mkF m q Ls st))) : Go p.tables e below Q (T.setTop (mkF m pc Ls (w :: v :: st))) := by
  exact Go.st (acmp X hx rfl h1 h2 rfl hd rfl hs ho hp) kk
theorem g_new (X : Stand p l e R s m args below meth c T locs cells slots) (hx : p.tables.exec = Jvm.exec) (hZ : Z.Warmed39 s.vm) (hown : s.vm.findClass own = some m.cls) (w1 : (Jvm.Cond.classLink own index C).before a0 Z = true) (w2 : (Jvm.Cond.instantiable C k).before a0 Z = true) (w3 : (Jvm.Cond.initialized C).before a0 Z = true) (hc : cells + 1 ≤ R.cells) (hl : slots + k ≤ R.slots) (eT : T.heap = h) (hd : decode c.code pc = .ok (.new index, 3)) (hq : pc + 3 = q) (kk : ∀ (T' : State) (h' : Heap) (b : Addr), b = h.size → Stand p l e R s m args below meth c T' locs (cells + 1) (slots + k) → T'.heap = h' → Ext h h' → Exa Z h' b C → (∀ {O nm d : String} {ty : FieldType}, Laid Z a0 C O nm d → parseFieldDescriptor d = some ty → Fld Z h' b O nm d (defaultValue ty)) → Go p.tables e below Q (T'.setTop (mkF m q Ls (.ref b :: st)))) : Go p.tables e below Q (T.setTop (mkF m pc Ls st)) := by
  subst hq
  obtain ⟨T', h', X', e', E', A', D', -, st'⟩ := newO X hx hZ hown w1 w2 w3 eT (g := mkF m pc Ls st) rfl hd hc hl
  exact Go.to st' (kk T' h' _ rfl X' e' E' A' D')
theorem g_newA (X : Stand p l e R s m args below meth c T locs cells slots) (hx : p.tables.exec = Jvm.exec) (hZ : Z.Warmed39 s.vm) {aty : ArrayType} (w1 : (Jvm.Cond.arrayClass (newarray.typeOf aty)).before a0 Z = true) (hn : ¬ z < 0) {n : Nat} (hk : z.toNatClampNeg = n) (hb : n * 8 ≤ 536870912) (hc : cells + 1 ≤ R.cells) (hl : slots + n ≤ R.slots) (eT : T.heap = h) (hd : decode c.code pc = .ok (.newarray aty, 2)) (hq : pc + 2 = q) (kk : ∀ (T' : State) (h' : Heap) (kc : ClassId) (b : Addr), b = h.size → Stand p l e R s m args below meth c T' locs (cells + 1) (slots + n) → T'.heap = h' → Ext h h' → Arv Z h' b kc (newarray.typeOf aty) z (List.replicate n (defaultValue (newarray.typeOf aty))) (defaultValue (newarray.typeOf aty)) → Go p.tables e below Q (T'.setTop (mkF m q Ls (.ref b :: st)))) : Go p.tables e below Q (T.setTop (mkF m pc Ls (.int z :: st))) := by
  subst hq
  obtain ⟨T', h', kc, X', e', E', V', st'⟩ := newArr X hx hZ w1 eT (g := mkF m pc Ls (.int z :: st)) rfl hd rfl hn hk hb hc hl
  exact Go.to st' (kk T' h' kc _ rfl X' e' E' V')
theorem g_stC (X : Stand p l e R s m args below meth c T locs cells slots) (hx : p.tables.exec = Jvm.exec) (hZ : Z.Warmed39 s.vm) (A : Arv Z h a kc .char z vs d) {j : Int32} (hj : j.toNatClampNeg = i) (h0 : ¬ j < 0) (hjz : j < z) (hi : i < vs.length) (hn : nar .char x = y) (eT : T.heap = h) (hd : decode c.code pc = .ok (.castore, 1)) (hq : pc + 1 = q) (kk : ∀ (T' : State) (h' : Heap), Stand p l e R s m args below meth c T' (locs ++ [⟨a, i⟩]) cells slots → T'.heap = h' → Wr h h' a i (.int y) → Arv Z h' a kc .char z (vs.set i (.int y)) d → Go p.tables e below Q (T'.setTop (mkF m q Ls st))) : Go p.tables e below Q (T.setTop (mkF m pc Ls (.int x :: .int j :: .ref a :: st))) := by
  subst hq
  obtain ⟨T', h', X', e', W', V', st'⟩ := setC X hx hZ eT A hj h0 hjz hi hn (g := mkF m pc Ls (.int x :: .int j :: .ref a :: st)) rfl rfl hd
  exact Go.to st' (kk T' h' X' e' W' V')
theorem g_stB (X : Stand p l e R s m args below meth c T locs cells slots) (hx : p.tables.exec = Jvm.exec) (hZ : Z.Warmed39 s.vm) (A : Arv Z h a kc .byte z vs d) {j : Int32} (hj : j.toNatClampNeg = i) (h0 : ¬ j < 0) (hjz : j < z) (hi : i < vs.length) (hn : nar .byte x = y) (eT : T.heap = h) (hd : decode c.code pc = .ok (.bastore, 1)) (hq : pc + 1 = q) (kk : ∀ (T' : State) (h' : Heap), Stand p l e R s m args below meth c T' (locs ++ [⟨a, i⟩]) cells slots → T'.heap = h' → Wr h h' a i (.int y) → Arv Z h' a kc .byte z (vs.set i (.int y)) d → Go p.tables e below Q (T'.setTop (mkF m q Ls st))) : Go p.tables e below Q (T.setTop (mkF m pc Ls (.int x :: .int j :: .ref a :: st))) := by
  subst hq
  obtain ⟨T', h', X', e', W', V', st'⟩ := setB X hx hZ eT A hj h0 hjz hi hn (g := mkF m pc Ls (.int x :: .int j :: .ref a :: st)) rfl rfl hd
  exact Go.to st' (kk T' h' X' e' W' V')
theorem g_stI (X : Stand p l e R s m args below meth c T locs cells slots) (hx : p.tables.exec = Jvm.exec) (hZ : Z.Warmed39 s.vm) (A : Arv Z h a kc .int z vs d) {j : Int32} (hj : j.toNatClampNeg = i) (h0 : ¬ j < 0) (hjz : j < z) (hi : i < vs.length) (eT : T.heap = h) (hd : decode c.code pc = .ok (.iastore, 1)) (hq : pc + 1 = q) (kk : ∀ (T' : State) (h' : Heap), Stand p l e R s m args below meth c T' (locs ++ [⟨a, i⟩]) cells slots → T'.heap = h' → Wr h h' a i (.int x) → Arv Z h' a kc .int z (vs.set i (.int x)) d → Go p.tables e below Q (T'.setTop (mkF m q Ls st))) : Go p.tables e below Q (T.setTop (mkF m pc Ls (.int x :: .int j :: .ref a :: st))) := by
  subst hq
  obtain ⟨T', h', X', e', W', V', st'⟩ := setI X hx hZ eT A hj h0 hjz hi  (g := mkF m pc Ls (.int x :: .int j :: .ref a :: st)) rfl rfl hd
  exact Go.to st' (kk T' h' X' e' W' V')
theorem g_stR (X : Stand p l e R s m args below meth c T locs cells slots) (hx : p.tables.exec = Jvm.exec) (hZ : Z.Warmed39 s.vm) (A : Arv Z h a kc ty z vs d) (hty : ty.isReference = true) (F : Sto Z h a v) (hfit : fits ty v = true) {j : Int32} (hj : j.toNatClampNeg = i) (h0 : ¬ j < 0) (hjz : j < z) (hi : i < vs.length) (eT : T.heap = h) (hd : decode c.code pc = .ok (.aastore, 1)) (hq : pc + 1 = q) (kk : ∀ (T' : State) (h' : Heap), Stand p l e R s m args below meth c T' (locs ++ [⟨a, i⟩]) cells slots → T'.heap = h' → Wr h h' a i v → Arv Z h' a kc ty z (vs.set i v) d → Go p.tables e below Q (T'.setTop (mkF m q Ls st))) : Go p.tables e below Q (T.setTop (mkF m pc Ls (v :: .int j :: .ref a :: st))) := by
  subst hq
  obtain ⟨T', h', X', e', W', V', st'⟩ := setR X hx hZ eT A hty F hfit hj h0 hjz hi (g := mkF m pc Ls (v :: .int j :: .ref a :: st)) rfl rfl hd
  exact Go.to st' (kk T' h' X' e' W' V')
theorem g_ldC (X : Stand p l e R s m args below meth c T locs cells slots) (hx : p.tables.exec = Jvm.exec) (hZ : Z.Warmed39 s.vm) (A : Arv Z h a kc .char z vs d) {j : Int32} (hj : j.toNatClampNeg = i) (h0 : ¬ j < 0) (hjz : j < z) (hv : vs.getD i d = v) (eT : T.heap = h) (hd : decode c.code pc = .ok (.caload, 1)) (hq : pc + 1 = q) (kk : Go p.tables e below Q (T.setTop (mkF m q Ls (v :: st)))) : Go p.tables e below Q (T.setTop (mkF m pc Ls (.int j :: .ref a :: st))) := by
  subst hq
  exact Go.to (ldC X hx hZ eT A hj h0 hjz hv (g := mkF m pc Ls (.int j :: .ref a :: st)) rfl rfl hd) kk
theorem g_ldB (X : Stand p l e R s m args below meth c T locs cells slots) (hx : p.tables.exec = Jvm.exec) (hZ : Z.Warmed39 s.vm) (A : Arv Z h a kc .byte z vs d) {j : Int32} (hj : j.toNatClampNeg = i) (h0 : ¬ j < 0) (hjz : j < z) (hv : vs.getD i d = v) (eT : T.heap = h) (hd : decode c.code pc = .ok (.baload, 1)) (hq : pc + 1 = q) (kk : Go p.tables e below Q (T.setTop (mkF m q Ls (v :: st)))) : Go p.tables e below Q (T.setTop (mkF m pc Ls (.int j :: .ref a :: st))) := by
  subst hq
  exact Go.to (ldB X hx hZ eT A hj h0 hjz hv (g := mkF m pc Ls (.int j :: .ref a :: st)) rfl rfl hd) kk
theorem g_ldI (X : Stand p l e R s m args below meth c T locs cells slots) (hx : p.tables.exec = Jvm.exec) (hZ : Z.Warmed39 s.vm) (A : Arv Z h a kc .int z vs d) {j : Int32} (hj : j.toNatClampNeg = i) (h0 : ¬ j < 0) (hjz : j < z) (hv : vs.getD i d = v) (eT : T.heap = h) (hd : decode c.code pc = .ok (.iaload, 1)) (hq : pc + 1 = q) (kk : Go p.tables e below Q (T.setTop (mkF m q Ls (v :: st)))) : Go p.tables e below Q (T.setTop (mkF m pc Ls (.int j :: .ref a :: st))) := by
  subst hq
  exact Go.to (ldI X hx hZ eT A hj h0 hjz hv (g := mkF m pc Ls (.int j :: .ref a :: st)) rfl rfl hd) kk
theorem g_ldR (X : Stand p l e R s m args below meth c T locs cells slots) (hx : p.tables.exec = Jvm.exec) (hZ : Z.Warmed39 s.vm) (A : Arv Z h a kc ty z vs d) (hty : ty.isReference = true) {j : Int32} (hj : j.toNatClampNeg = i) (h0 : ¬ j < 0) (hjz : j < z) (hv : vs.getD i d = v) (eT : T.heap = h) (hd : decode c.code pc = .ok (.aaload, 1)) (hq : pc + 1 = q) (kk : Go p.tables e below Q (T.setTop (mkF m q Ls (v :: st)))) : Go p.tables e below Q (T.setTop (mkF m pc Ls (.int j :: .ref a :: st))) := by
  subst hq
  exact Go.to (ldR X hx hZ eT A hty hj h0 hjz hv (g := mkF m pc Ls (.int j :: .ref a :: st)) rfl rfl hd) kk
theorem g_len (X : Stand p l e R s m args below meth c T locs cells slots) (hx : p.tables.exec = Jvm.exec) (hZ : Z.Warmed39 s.vm) (A : Arv Z h a kc ty z vs d) (eT : T.heap = h) (hd : decode c.code pc = .ok (.arraylength, 1)) (hq : pc + 1 = q) (kk : Go p.tables e below Q (T.setTop (mkF m q Ls (.int z :: st)))) : Go p.tables e below Q (T.setTop (mkF m pc Ls (.ref a :: st))) := by
  subst hq
  exact Go.to (alen X hx hZ eT A (g := mkF m pc Ls (.ref a :: st)) rfl rfl hd) kk
theorem g_getF (X : Stand p l e R s m args below meth c T locs cells slots) (hx : p.tables.exec = Jvm.exec) (hZ : Z.Warmed39 s.vm) (hown : s.vm.findClass own = some m.cls) {R0 host : String} (wl : (Jvm.Cond.fieldLink own index R0 f dd).before a0 Z = true ∨ (Jvm.Cond.fieldLinkNest own index R0 f dd host).before a0 Z = true) (via : Via Z R0 O f dd) (F : Fld Z h a O f dd v) (eT : T.heap = h) (hd : decode c.code pc = .ok (.getfield index, 3)) (hq : pc + 3 = q) (kk : ∀ (T' : State), Stand p l e R s m args below meth c T' locs cells slots → T'.heap = h → Go p.tables e below Q (T'.setTop (mkF m q Ls (v :: st)))) : Go p.tables e below Q (T.setTop (mkF m pc Ls (.ref a :: st))) := by
  subst hq
  obtain ⟨T', X', e', st'⟩ := getF X hx hZ hown wl via eT F (g := mkF m pc Ls (.ref a :: st)) rfl rfl hd
  exact Go.to st' (kk T' X' e')
theorem g_putF (X : Stand p l e R s m args below meth c T locs cells slots) (hx : p.tables.exec = Jvm.exec) (hZ : Z.Warmed39 s.vm) (hown : s.vm.findClass own = some m.cls) {R0 host : String} {kk2 : Nat} (wl : (Jvm.Cond.fieldLink own index R0 f dd).before a0 Z = true ∨ (Jvm.Cond.fieldLinkNest own index R0 f dd host).before a0 Z = true) (via : Via Z R0 O f dd) {old : Value} (F : Fld Z h a O f dd old) (E : Exa Z h a C) (L : (Jvm.Cond.lays C O f dd).before a0 Z = true ∨ ((Jvm.Cond.laysFinal C O f dd).before a0 Z = true ∧ own = O ∧ meth.name = "<init>")) (wi : (Jvm.Cond.instantiable C kk2).before a0 Z = true) (hty : parseFieldDescriptor dd = some ty) (hn : narrow ty v = v) (hf : fits ty v = true) (eT : T.heap = h) (hd : decode c.code pc = .ok (.putfield index, 3)) (hq : pc + 3 = q) (kk : ∀ (T' : State) (h' : Heap), Stand p l e R s m args below meth c T' (locs ++ [⟨a, Jvm.RoadKit.slotOf Z O f dd⟩]) cells slots → T'.heap = h' → Wr h h' a (Jvm.RoadKit.slotOf Z O f dd) v → Go p.tables e below Q (T'.setTop (mkF m q Ls st))) : Go p.tables e below Q (T.setTop (mkF m pc Ls (v :: .ref a :: st))) := by
  subst hq
  obtain ⟨T', h', X', e', W', st'⟩ := putF X hx hZ hown wl via eT F E L wi hty hn hf (g := mkF m pc Ls (v :: .ref a :: st)) rfl rfl hd
  exact Go.to st' (kk T' h' X' e' W')
theorem g_getS (X : Stand p l e R s m args below meth c T locs cells slots) (hx : p.tables.exec = Jvm.exec) (hZ : Z.Warmed39 s.vm) (hown : s.vm.findClass own = some m.cls) {R0 host : String} (wl : (Jvm.Cond.fieldLink own index R0 f dd).before a0 Z = true ∨ (Jvm.Cond.fieldLinkNest own index R0 f dd host).before a0 Z = true) (via : Via Z R0 O f dd) (F : Sta Z h O f dd v) (eT : T.heap = h) (hd : decode c.code pc = .ok (.getstatic index, 3)) (hq : pc + 3 = q) (kk : ∀ (T' : State), Stand p l e R s m args below meth c T' locs cells slots → T'.heap = h → Go p.tables e below Q (T'.setTop (mkF m q Ls (v :: st)))) : Go p.tables e below Q (T.setTop (mkF m pc Ls st)) := by
  subst hq
  obtain ⟨T', X', e', st'⟩ := getS2 X hx hZ hown wl via eT F (g := mkF m pc Ls st) rfl hd
  exact Go.to st' (kk T' X' e')
theorem g_cast (X : Stand p l e R s m args below meth c T locs cells slots) (hx : p.tables.exec = Jvm.exec) (hZ : Z.Warmed39 s.vm) (hown : s.vm.findClass own = some m.cls) {K : String} (w1 : (Jvm.Cond.classLink own index K).before a0 Z = true) (I : Ins Z h a K true) (eT : T.heap = h) (hd : decode c.code pc = .ok (.checkcast index, 3)) (hq : pc + 3 = q) (kk : ∀ (T' : State), Stand p l e R s m args below meth c T' locs cells slots → T'.heap = h → Go p.tables e below Q (T'.setTop (mkF m q Ls (.ref a :: st)))) : Go p.tables e below Q (T.setTop (mkF m pc Ls (.ref a :: st))) := by
  subst hq
  obtain ⟨T', X', e', st'⟩ := castY X hx hZ hown w1 eT I (g := mkF m pc Ls (.ref a :: st)) rfl rfl hd
  exact Go.to st' (kk T' X' e')
theorem g_insY (X : Stand p l e R s m args below meth c T locs cells slots) (hx : p.tables.exec = Jvm.exec) (hZ : Z.Warmed39 s.vm) (hown : s.vm.findClass own = some m.cls) {K : String} (w1 : (Jvm.Cond.classLink own index K).before a0 Z = true) (I : Ins Z h a K true) (eT : T.heap = h) (hd : decode c.code pc = .ok (.instanceof index, 3)) (hq : pc + 3 = q) (kk : ∀ (T' : State), Stand p l e R s m args below meth c T' locs cells slots → T'.heap = h → Go p.tables e below Q (T'.setTop (mkF m q Ls (.int 1 :: st)))) : Go p.tables e below Q (T.setTop (mkF m pc Ls (.ref a :: st))) := by
  subst hq
  obtain ⟨T', X', e', st'⟩ := instY X hx hZ hown w1 eT I (g := mkF m pc Ls (.ref a :: st)) rfl rfl hd
  exact Go.to st' (kk T' X' e')
theorem g_insN (X : Stand p l e R s m args below meth c T locs cells slots) (hx : p.tables.exec = Jvm.exec) (hZ : Z.Warmed39 s.vm) (hown : s.vm.findClass own = some m.cls) {K : String} (w1 : (Jvm.Cond.classLink own index K).before a0 Z = true) (E : Exa Z h a C) (F : ∃ c t, Z.vm.findClass C = some c ∧ Z.vm.findClass K = some t ∧ Z.vm.assignable c t = false) (eT : T.heap = h) (hd : decode c.code pc = .ok (.instanceof index, 3)) (hq : pc + 3 = q) (kk : ∀ (T' : State), Stand p l e R s m args below meth c T' locs cells slots → T'.heap = h → Go p.tables e below Q (T'.setTop (mkF m q Ls (.int 0 :: st)))) : Go p.tables e below Q (T.setTop (mkF m pc Ls (.ref a :: st))) := by
  subst hq
  obtain ⟨T', X', e', st'⟩ := instNo X hx hZ hown w1 eT E F (g := mkF m pc Ls (.ref a :: st)) rfl rfl hd
  exact Go.to st' (kk T' X' e')
theorem g_init0 (X : Stand p l e R s m args below meth c T locs cells slots) (hx : p.tables.exec = Jvm.exec) (hZ : Z.Warmed39 s.vm) (hown : s.vm.findClass own = some m.cls) (w1 : (Jvm.Cond.methodLink own index Lib.objectInit).before a0 Z = true) (w2 : (Jvm.Cond.instanceMethod Lib.objectInit).before a0 Z = true) (w3 : (Jvm.Cond.code Lib.objectInit ⟨#[0xb1]⟩ 1 none).before a0 Z = true) (hsize : Ls.size = c.maxLocals) (hf : 1 ≤ R.frames) {W : Nat} (hW : (st.map fun v => v.category).sum ≤ W) (hl : W + 12 ≤ R.locals) (eT : T.heap = h) (hd : decode c.code pc = .ok (.invokespecial index, 3)) (hq : pc + 3 = q) (kk : ∀ (T' : State), Stand p l e R s m args below meth c T' locs cells slots → T'.heap = h → Go p.tables e below Q (T'.setTop (mkF m q Ls st))) : Go p.tables e below Q (T.setTop (mkF m pc Ls (.ref a :: st))) := by
  subst hq
  obtain ⟨T', X', e', st'⟩ := initO X hx hZ hown w1 w2 w3 eT (g := mkF m pc Ls (.ref a :: st)) rfl hsize rfl hd hf (W := W) (by show 2 * 0 + _ ≤ _; omega) hl
  exact Go.to st' (kk T' X' e')
theorem g_ldc {vm0 : Vm} (X : Stand p l e R (s.setVm vm0) m args below meth c T locs cells slots) (hx : p.tables.exec = Jvm.exec) (hZ : Z.Warmed39 vm0) (hown : vm0.findClass own = some m.cls) {text : String} (w : (Jvm.Cond.stringLink own index text).before a0 Z = true) (wS : ∀ a ∈ Bundle.stringAtoms, a.before a0 Z = true) {k0 : Nat} (hS : s.Since vm0 k0) (hk : k0 ≤ h.size) (hEL : EW Z a0 EL) (hmem : (own, index) ∈ EL) (H : CHv Z EL vm0 h) (ht : (∀ c ∈ text.toList, c.toNat < 256) ∧ text.toList.map (fun c => Value.int (Jvm.Lit.byteI c.toNat.toUInt16)) = vs) (hz : ¬ z < 0) (hl : z.toNatClampNeg = vs.length) {n : Nat} (hn : 4 * text.toList.length ≤ n) (hbig : n ≤ 536870912) (hc : cells + 2 ≤ R.cells) (hl' : slots + (n + 4) ≤ R.slots) (eT : T.heap = h) (hd : decode c.code pc = .ok (.ldc index, 2)) (hq : pc + 2 = q) (kk : ∀ (a : Addr) (T' : State) (h' : Heap) (k1 : Nat) (b : Addr) (k : ClassId), Stand p l e R (s.setVm T'.vm) m args below meth c T' locs (cells + 2) (slots + (n + 4)) → T'.heap = h' → Ext h h' → s.Since T'.vm k1 → k1 ≤ h'.size → Z.Warmed39 T'.vm → T'.vm.findClass own = some m.cls → Exa Z h' a "java/lang/String" → Fld Z h' a "java/lang/String" "coder" "B" (.int 0) → Fld Z h' a "java/lang/String" "value" "[B" (.ref b) → Arv Z h' b k .byte z vs (.int 0) → a < h'.size → b < h'.size → CHr Z EL vm0 h T'.vm h' → (∀ x, Safe Z EL T'.vm h' x → x ≠ a ∧ x ≠ b) → Go p.tables e below Q (T'.setTop (mkF m q Ls (.ref a :: st)))) : Go p.tables e below Q (T.setTop (mkF m pc Ls st)) := by
  subst hq
  obtain ⟨a, T', h', k1, b, k, X', e', E', S', hk', hZ', ho', A', F1, F2, V', l1, l2, R', -, sn, st'⟩ := ldcCH X hx hZ hown w wS eT hS hk hEL hmem H ht hz hl (g := mkF m pc Ls st) rfl hd hn hbig hc hl'
  exact Go.to st' (kk a T' h' k1 b k X' e' E' S' hk' hZ' ho' A' F1 F2 V' l1 l2 R' sn)
theorem g_ldcI (X : Stand p l e R s m args below meth c T locs cells slots) (hx : p.tables.exec = Jvm.exec) {a1 : Array Value} (hZ : Z.Warmed39 s.vm) (hown : s.vm.findClass own = some m.cls) (w : (Jvm.Cond.constant own index z).before a0 Z = true) (hd : decode c.code pc = .ok (.ldc index, 2)) (hq : pc + 2 = q) (kk : Go p.tables e below Q (T.setTop (mkF m q Ls (.int z :: st)))) : Go p.tables e below Q (T.setTop (mkF m pc Ls st)) := by
  subst hq; exact Go.to (X.ldcInt hx hown (mvT hZ w) (g := mkF m pc Ls st) rfl hd) kk
theorem g_sp {y : MethodName} {bytes : ByteArray} {maxL : Nat} {W nk ns : Nat} {argsL st0 : List Value} {Qc : Option Value → Heap → List Loc → Prop} (X : Stand p l e R s m args below meth c T locs cells slots) (hx : p.tables.exec = Jvm.exec) (hZ : Z.Warmed39 s.vm) (hown : s.vm.findClass own = some m.cls) (w1 : (Jvm.Cond.methodLink own index y).before a0 Z = true) (w2 : (Jvm.Cond.instanceMethod y).before a0 Z = true) (w3 : (Jvm.Cond.code y bytes maxL none).before a0 Z = true) (hy1 : y.name = "<init>") (hyc : y.cls ≠ "java/lang/invoke/MethodHandle" ∧ y.cls ≠ "java/lang/invoke/VarHandle") (eT : T.heap = h) (hK : BackQ l R p e below s args y 3 W ((.ref a :: argsL).toArray) h nk ns Qc) (hsize : Ls.size = c.maxLocals) (hlen : ∀ sig, parseMethodDescriptor y.desc = some sig → argsL.length = sig.parameters.length) (hst : st0 = argsL.reverse ++ .ref a :: st) (hW : (st.map fun v => v.category).sum ≤ W) (hd : decode c.code pc = .ok (.invokespecial index, 3)) (hq : pc + 3 = q) (hc : cells + nk ≤ R.cells) (hs : slots + ns ≤ R.slots) (kk : ∀ (v : Option Value) (T' : State) (L : List Loc), Stand p l e R s m args below meth c T' (locs ++ L) (cells + nk) (slots + ns) → Qc v T'.heap L → Go p.tables e below Q (T'.setTop (mkF m q Ls (v.toList ++ st)))) : Go p.tables e below Q (T.setTop (mkF m pc Ls st0)) := by
  subst hq
  obtain ⟨v, T', L, X', hQ, st'⟩ := callSp X hx hZ hown hy1 w1 w2 w3 hyc eT hK (g := mkF m pc Ls st0) rfl hsize hlen hst (by show 2 * 0 + _ ≤ _; omega) hd hc hs
  exact Go.run st' (kk v T' L X' hQ)
theorem g_st {y : MethodName} {bytes : ByteArray} {maxL : Nat} {ret : Option FieldType} {W nk ns : Nat} {argsL st0 : List Value} {Qc : Option Value → Heap → List Loc → Prop} (X : Stand p l e R s m args below meth c T locs cells slots) (hx : p.tables.exec = Jvm.exec) (hZ : Z.Warmed39 s.vm) (hown : s.vm.findClass own = some m.cls) (w1 : (Jvm.Cond.methodLink own index y).before a0 Z = true) (w2 : (Jvm.Cond.static y).before a0 Z = true) (w3 : (Jvm.Cond.initialized y.cls).before a0 Z = true) (w4 : (Jvm.Cond.code y bytes maxL ret).before a0 Z = true) (hyc : y.cls ≠ "java/lang/invoke/MethodHandle" ∧ y.cls ≠ "java/lang/invoke/VarHandle") (eT : T.heap = h) (hK : BackQ l R p e below s args y 3 W (argsL.toArray) h nk ns Qc) (hsize : Ls.size = c.maxLocals) (hlen : ∀ sig, parseMethodDescriptor y.desc = some sig → argsL.length = sig.parameters.length) (hst : st0 = argsL.reverse ++ st) (hW : (st.map fun v => v.category).sum ≤ W) (hd : decode c.code pc = .ok (.invokestatic index, 3)) (hq : pc + 3 = q) (hc : cells + nk ≤ R.cells) (hs : slots + ns ≤ R.slots) (kk : ∀ (v : Option Value) (T' : State) (L : List Loc), Stand p l e R s m args below meth c T' (locs ++ L) (cells + nk) (slots + ns) → Qc v T'.heap L → Go p.tables e below Q (T'.setTop (mkF m q Ls (v.toList ++ st)))) : Go p.tables e below Q (T.setTop (mkF m pc Ls st0)) := by
  subst hq
  obtain ⟨v, T', L, X', hQ, st'⟩ := callSt X hx hZ hown w1 w2 w3 w4 hyc eT hK (g := mkF m pc Ls st0) rfl hsize hlen hst (by show 2 * 0 + _ ≤ _; omega) hd hc hs
  exact Go.run st' (kk v T' L X' hQ)
theorem g_vi {y z : MethodName} {W nk ns : Nat} {argsL st0 : List Value} {Qc : Option Value → Heap → List Loc → Prop} (X : Stand p l e R s m args below meth c T locs cells slots) (hx : p.tables.exec = Jvm.exec) (hZ : Z.Warmed39 s.vm) (hown : s.vm.findClass own = some m.cls) (w1 : (Jvm.Cond.methodLink own index y).before a0 Z = true) (w2 : (Jvm.Cond.declares y).before a0 Z = true) (nf : NotFace s y) (w4 : (Jvm.Cond.selects C y z).before a0 Z = true) (w5 : (Jvm.Cond.instanceMethod z).before a0 Z = true) (hyc : y.cls ≠ "java/lang/invoke/MethodHandle" ∧ y.cls ≠ "java/lang/invoke/VarHandle") (E : Exa Z h a C) (eT : T.heap = h) (hK : BackQ l R p e below s args z 3 W ((.ref a :: argsL).toArray) h nk ns Qc) (hsize : Ls.size = c.maxLocals) (hlen : ∀ sig, parseMethodDescriptor y.desc = some sig → argsL.length = sig.parameters.length) (hst : st0 = argsL.reverse ++ .ref a :: st) (hW : (st.map fun v => v.category).sum ≤ W) (hd : decode c.code pc = .ok (.invokevirtual index, 3)) (hq : pc + 3 = q) (hc : cells + nk ≤ R.cells) (hs : slots + ns ≤ R.slots) (kk : ∀ (v : Option Value) (T' : State) (L : List Loc), Stand p l e R s m args below meth c T' (locs ++ L) (cells + nk) (slots + ns) → Qc v T'.heap L → Go p.tables e below Q (T'.setTop (mkF m q Ls (v.toList ++ st)))) : Go p.tables e below Q (T.setTop (mkF m pc Ls st0)) := by
  subst hq
  obtain ⟨v, T', L, X', hQ, st'⟩ := callVi X hx hZ hown w1 w2 nf w4 w5 hyc eT E hK (g := mkF m pc Ls st0) rfl hsize hlen hst (by show 2 * 0 + _ ≤ _; omega) hd hc hs
  exact Go.run st' (kk v T' L X' hQ)
theorem g_vu {y z : MethodName} {W nk ns : Nat} {argsL st0 : List Value} {Qc : Option Value → Heap → List Loc → Prop} (X : Stand p l e R s m args below meth c T locs cells slots) (hx : p.tables.exec = Jvm.exec) (hZ : Z.Warmed39 s.vm) (hown : s.vm.findClass own = some m.cls) {owner : String} (w1 : (Jvm.Cond.methodLink own index y).before a0 Z = true) (w2 : (Jvm.Cond.sameMethod y.cls owner y.name y.desc).before a0 Z = true) (w3 : (Jvm.Cond.declares ⟨owner, y.name, y.desc⟩).before a0 Z = true) (hyc : owner ≠ "java/lang/invoke/MethodHandle" ∧ owner ≠ "java/lang/invoke/VarHandle") (w4 : (Jvm.Cond.selects C y z).before a0 Z = true) (w5 : (Jvm.Cond.instanceMethod z).before a0 Z = true) (E : Exa Z h a C) (eT : T.heap = h) (hK : BackQ l R p e below s args z 3 W ((.ref a :: argsL).toArray) h nk ns Qc) (hsize : Ls.size = c.maxLocals) (hlen : ∀ sig, parseMethodDescriptor y.desc = some sig → argsL.length = sig.parameters.length) (hst : st0 = argsL.reverse ++ .ref a :: st) (hW : (st.map fun v => v.category).sum ≤ W) (hd : decode c.code pc = .ok (.invokevirtual index, 3)) (hq : pc + 3 = q) (hc : cells + nk ≤ R.cells) (hs : slots + ns ≤ R.slots) (kk : ∀ (v : Option Value) (T' : State) (L : List Loc), Stand p l e R s m args below meth c T' (locs ++ L) (cells + nk) (slots + ns) → Qc v T'.heap L → Go p.tables e below Q (T'.setTop (mkF m q Ls (v.toList ++ st)))) : Go p.tables e below Q (T.setTop (mkF m pc Ls st0)) := by
  subst hq
  obtain ⟨v, T', L, X', hQ, st'⟩ := callVu X hx hZ hown w1 w2 w3 hyc w4 w5 eT E hK (g := mkF m pc Ls st0) rfl hsize hlen hst (by show 2 * 0 + _ ≤ _; omega) hd hc hs
  exact Go.run st' (kk v T' L X' hQ)
theorem g_if {y z : MethodName} {W nk ns : Nat} {argsL st0 : List Value} {Qc : Option Value → Heap → List Loc → Prop} {count : Nat} (X : Stand p l e R s m args below meth c T locs cells slots) (hx : p.tables.exec = Jvm.exec) (hZ : Z.Warmed39 s.vm) (hown : s.vm.findClass own = some m.cls) (w1 : (Jvm.Cond.methodLink own index y).before a0 Z = true) (w2 : (Jvm.Cond.declares y).before a0 Z = true) (w3 : (Jvm.Cond.interfaceMethod y.cls y.cls y.name y.desc).before a0 Z = true) (h3 : ((Jvm.Cond.interfaceMethod y.cls y.cls y.name y.desc).onTables && (Jvm.Cond.interfaceMethod y.cls y.cls y.name y.desc).keepsFace) = true) (w4 : (Jvm.Cond.selects C y z).before a0 Z = true) (w5 : (Jvm.Cond.instanceMethod z).before a0 Z = true) (w6 : (Jvm.Cond.publicMethod z).before a0 Z = true) (w7 : (Jvm.Cond.unhidden C y.name y.desc).before a0 Z = true) (w8 : (Jvm.Cond.castable C y.cls).before a0 Z = true) (hyc : y.cls ≠ "java/lang/invoke/MethodHandle" ∧ y.cls ≠ "java/lang/invoke/VarHandle") (E : Exa Z h a C) (eT : T.heap = h) (hK : BackQ l R p e below s args z 5 W ((.ref a :: argsL).toArray) h nk ns Qc) (hsize : Ls.size = c.maxLocals) (hlen : ∀ sig, parseMethodDescriptor y.desc = some sig → argsL.length = sig.parameters.length) (hst : st0 = argsL.reverse ++ .ref a :: st) (hW : (st.map fun v => v.category).sum ≤ W) (hd : decode c.code pc = .ok (.invokeinterface index count, 5)) (hq : pc + 5 = q) (hc : cells + nk ≤ R.cells) (hs : slots + ns ≤ R.slots) (kk : ∀ (v : Option Value) (T' : State) (L : List Loc), Stand p l e R s m args below meth c T' (locs ++ L) (cells + nk) (slots + ns) → Qc v T'.heap L → Go p.tables e below Q (T'.setTop (mkF m q Ls (v.toList ++ st)))) : Go p.tables e below Q (T.setTop (mkF m pc Ls st0)) := by
  subst hq
  obtain ⟨v, T', L, X', hQ, st'⟩ := callIf X hx hZ hown w1 w2 w3 h3 w4 w5 w6 w7 w8 hyc eT E hK (g := mkF m pc Ls st0) rfl hsize hlen hst (by show 2 * 0 + _ ≤ _; omega) hd hc hs
  exact Go.run st' (kk v T' L X' hQ)
theorem g_spS {vm0 : Vm} {y : MethodName} {bytes : ByteArray} {maxL : Nat} {W nk ns : Nat} {argsL st0 : List Value} {Qc : Option Value → Heap → List Loc → Prop} (X : Stand p l e R (s.setVm vm0) m args below meth c T locs cells slots) (hx : p.tables.exec = Jvm.exec) (hZ : Z.Warmed39 vm0) (hown : vm0.findClass own = some m.cls) {n0 : Nat} (hS : s.Since vm0 n0) (hk : n0 ≤ h.size) (w1 : (Jvm.Cond.methodLink own index y).before a0 Z = true) (w2 : (Jvm.Cond.instanceMethod y).before a0 Z = true) (w3 : (Jvm.Cond.code y bytes maxL none).before a0 Z = true) (hy1 : y.name = "<init>") (hyc : y.cls ≠ "java/lang/invoke/MethodHandle" ∧ y.cls ≠ "java/lang/invoke/VarHandle") (eT : T.heap = h) (hK : BackSQ l R p e below s vm0 args y 3 W ((.ref a :: argsL).toArray) h nk ns Z EL Qc) (hsize : Ls.size = c.maxLocals) (hlen : ∀ sig, parseMethodDescriptor y.desc = some sig → argsL.length = sig.parameters.length) (hst : st0 = argsL.reverse ++ .ref a :: st) (hW : (st.map fun v => v.category).sum ≤ W) (hd : decode c.code pc = .ok (.invokespecial index, 3)) (hq : pc + 3 = q) (hc : cells + nk ≤ R.cells) (hs : slots + ns ≤ R.slots) (kk : ∀ (v : Option Value) (T' : State) (L : List Loc), AfterS p l e R s m args below meth c Z EL own vm0 h T' (locs ++ L) (cells + nk) (slots + ns) → Qc v T'.heap L → Go p.tables e below Q (T'.setTop (mkF m q Ls (v.toList ++ st)))) : Go p.tables e below Q (T.setTop (mkF m pc Ls st0)) := by
  subst hq
  obtain ⟨v, T', L, X', hQ, st'⟩ := callSpS X hx hZ hown hS hk hy1 w1 w2 w3 hyc eT hK (g := mkF m pc Ls st0) rfl hsize hlen hst (by show 2 * 0 + _ ≤ _; omega) hd hc hs
  exact Go.run st' (kk v T' L X' hQ)
theorem g_stS {vm0 : Vm} {y : MethodName} {bytes : ByteArray} {maxL : Nat} {ret : Option FieldType} {W nk ns : Nat} {argsL st0 : List Value} {Qc : Option Value → Heap → List Loc → Prop} (X : Stand p l e R (s.setVm vm0) m args below meth c T locs cells slots) (hx : p.tables.exec = Jvm.exec) (hZ : Z.Warmed39 vm0) (hown : vm0.findClass own = some m.cls) {n0 : Nat} (hS : s.Since vm0 n0) (hk : n0 ≤ h.size) (w1 : (Jvm.Cond.methodLink own index y).before a0 Z = true) (w2 : (Jvm.Cond.static y).before a0 Z = true) (w3 : (Jvm.Cond.initialized y.cls).before a0 Z = true) (w4 : (Jvm.Cond.code y bytes maxL ret).before a0 Z = true) (hyc : y.cls ≠ "java/lang/invoke/MethodHandle" ∧ y.cls ≠ "java/lang/invoke/VarHandle") (eT : T.heap = h) (hK : BackSQ l R p e below s vm0 args y 3 W (argsL.toArray) h nk ns Z EL Qc) (hsize : Ls.size = c.maxLocals) (hlen : ∀ sig, parseMethodDescriptor y.desc = some sig → argsL.length = sig.parameters.length) (hst : st0 = argsL.reverse ++ st) (hW : (st.map fun v => v.category).sum ≤ W) (hd : decode c.code pc = .ok (.invokestatic index, 3)) (hq : pc + 3 = q) (hc : cells + nk ≤ R.cells) (hs : slots + ns ≤ R.slots) (kk : ∀ (v : Option Value) (T' : State) (L : List Loc), AfterS p l e R s m args below meth c Z EL own vm0 h T' (locs ++ L) (cells + nk) (slots + ns) → Qc v T'.heap L → Go p.tables e below Q (T'.setTop (mkF m q Ls (v.toList ++ st)))) : Go p.tables e below Q (T.setTop (mkF m pc Ls st0)) := by
  subst hq
  obtain ⟨v, T', L, X', hQ, st'⟩ := callStS X hx hZ hown hS hk w1 w2 w3 w4 hyc eT hK (g := mkF m pc Ls st0) rfl hsize hlen hst (by show 2 * 0 + _ ≤ _; omega) hd hc hs
  exact Go.run st' (kk v T' L X' hQ)
theorem g_viS {vm0 : Vm} {y z : MethodName} {W nk ns : Nat} {argsL st0 : List Value} {Qc : Option Value → Heap → List Loc → Prop} (X : Stand p l e R (s.setVm vm0) m args below meth c T locs cells slots) (hx : p.tables.exec = Jvm.exec) (hZ : Z.Warmed39 vm0) (hown : vm0.findClass own = some m.cls) {n0 : Nat} (hS : s.Since vm0 n0) (hk : n0 ≤ h.size) (w1 : (Jvm.Cond.methodLink own index y).before a0 Z = true) (w2 : (Jvm.Cond.declares y).before a0 Z = true) (nf : NotFace (s.setVm vm0) y) (w4 : (Jvm.Cond.selects C y z).before a0 Z = true) (w5 : (Jvm.Cond.instanceMethod z).before a0 Z = true) (hyc : y.cls ≠ "java/lang/invoke/MethodHandle" ∧ y.cls ≠ "java/lang/invoke/VarHandle") (E : Exa Z h a C) (eT : T.heap = h) (hK : BackSQ l R p e below s vm0 args z 3 W ((.ref a :: argsL).toArray) h nk ns Z EL Qc) (hsize : Ls.size = c.maxLocals) (hlen : ∀ sig, parseMethodDescriptor y.desc = some sig → argsL.length = sig.parameters.length) (hst : st0 = argsL.reverse ++ .ref a :: st) (hW : (st.map fun v => v.category).sum ≤ W) (hd : decode c.code pc = .ok (.invokevirtual index, 3)) (hq : pc + 3 = q) (hc : cells + nk ≤ R.cells) (hs : slots + ns ≤ R.slots) (kk : ∀ (v : Option Value) (T' : State) (L : List Loc), AfterS p l e R s m args below meth c Z EL own vm0 h T' (locs ++ L) (cells + nk) (slots + ns) → Qc v T'.heap L → Go p.tables e below Q (T'.setTop (mkF m q Ls (v.toList ++ st)))) : Go p.tables e below Q (T.setTop (mkF m pc Ls st0)) := by
  subst hq
  obtain ⟨v, T', L, X', hQ, st'⟩ := callViS X hx hZ hown hS hk w1 w2 nf w4 w5 hyc eT E hK (g := mkF m pc Ls st0) rfl hsize hlen hst (by show 2 * 0 + _ ≤ _; omega) hd hc hs
  exact Go.run st' (kk v T' L X' hQ)
theorem g_newR (X : Stand p l e R s m args below meth c T locs cells slots) (hx : p.tables.exec = Jvm.exec) (hZ : Z.Warmed39 s.vm) (hown : s.vm.findClass own = some m.cls) (w1 : (Jvm.Cond.classLink own index C).before a0 Z = true) (w2 : (Jvm.Cond.arrayOver (.object C)).before a0 Z = true) {ad : String} (had : "[" ++ (FieldType.object C).toString = ad) (hn : ¬ z < 0) {n : Nat} (hk : z.toNatClampNeg = n) (hb : n * 8 ≤ 536870912) (hc : cells + 1 ≤ R.cells) (hl : slots + n ≤ R.slots) (eT : T.heap = h) (hd : decode c.code pc = .ok (.anewarray index, 3)) (hq : pc + 3 = q) (kk : ∀ (T' : State) (h' : Heap) (kc : ClassId) (b : Addr), b = h.size → Stand p l e R s m args below meth c T' locs (cells + 1) (slots + n) → T'.heap = h' → Ext h h' → Arv Z h' b kc (.object C) z (List.replicate n .null) .null → Exa Z h' b ad → Ovr Z kc C → Go p.tables e below Q (T'.setTop (mkF m q Ls (.ref b :: st)))) : Go p.tables e below Q (T.setTop (mkF m pc Ls (.int z :: st))) := by
  subst hq
  obtain ⟨T', h', kc, X', e', E', A', Ea, O', st'⟩ := newRE X hx hZ hown w1 w2 eT (g := mkF m pc Ls (.int z :: st)) rfl hd rfl hn (cap := n) (Nat.le_of_eq hk) hb hc hl had
  have V0 : Arv Z h' h.size kc (.object C) z [] Value.null := Arv.new A' hn
  exact Go.to st' (kk T' h' kc _ rfl X' e' E' (V0.pad (fun i => by have := pad_rep [] Value.null n i; simpa using this)) Ea O')
theorem g_gcls (X : Stand p l e R s m args below meth c T locs cells slots) (hx : p.tables.exec = Jvm.exec) (hZ : Z.Warmed39 s.vm) (hown : s.vm.findClass own = some m.cls) (w1 : (Jvm.Cond.methodLink own index ⟨"java/lang/Object", "getClass", "()Ljava/lang/Class;"⟩).before a0 Z = true) (w2 : (Jvm.Cond.declares ⟨"java/lang/Object", "getClass", "()Ljava/lang/Class;"⟩).before a0 Z = true) (w3 : (Jvm.Cond.noSuperclass "java/lang/Object").before a0 Z = true) (w4 : (Jvm.Cond.selects C ⟨"java/lang/Object", "getClass", "()Ljava/lang/Class;"⟩ ⟨"java/lang/Object", "getClass", "()Ljava/lang/Class;"⟩).before a0 Z = true) (w5 : (Jvm.Cond.instanceMethod ⟨"java/lang/Object", "getClass", "()Ljava/lang/Class;"⟩).before a0 Z = true) (w6 : (Jvm.Cond.native ⟨"java/lang/Object", "getClass", "()Ljava/lang/Class;"⟩).before a0 Z = true) (E : Exa Z h a C) {mr : Addr} (M : Mir Z C mr) (hsize : Ls.size = c.maxLocals) (hf : 1 ≤ R.frames) {W : Nat} (hW : (st.map fun v => v.category).sum ≤ W) (hl : W + (nativeFrameWords "java/lang/Object" "getClass" 1 + 11) ≤ R.locals) (eT : T.heap = h) (hd : decode c.code pc = .ok (.invokevirtual index, 3)) (hq : pc + 3 = q) (kk : ∀ (T' : State), Stand p l e R s m args below meth c T' locs cells slots → T'.heap = h → Go p.tables e below Q (T'.setTop (mkF m q Ls (.ref mr :: st)))) : Go p.tables e below Q (T.setTop (mkF m pc Ls (.ref a :: st))) := by
  subst hq
  obtain ⟨T', X', e', st'⟩ := gcls X hx hZ hown w1 w2 w3 w4 w5 w6 eT E M (g := mkF m pc Ls (.ref a :: st)) rfl hsize rfl hd hf (W := W) (by show 2 * 0 + _ ≤ _; omega) hl
  exact Go.to st' (kk T' X' e')
theorem g_ldcM (X : Stand p l e R s m args below meth c T locs cells slots) (hx : p.tables.exec = Jvm.exec) (hZ : Z.Warmed39 s.vm) (hown : s.vm.findClass own = some m.cls) (w1 : (Jvm.Cond.classLink own index C).before a0 Z = true) {mr : Addr} (M : Mir Z C mr) (eT : T.heap = h) (hd : decode c.code pc = .ok (.ldc index, 2)) (hq : pc + 2 = q) (kk : ∀ (T' : State), Stand p l e R s m args below meth c T' locs cells slots → T'.heap = h → Go p.tables e below Q (T'.setTop (mkF m q Ls (.ref mr :: st)))) : Go p.tables e below Q (T.setTop (mkF m pc Ls st)) := by
  subst hq
  have hev : (Term.mirror C).eval args s none [] s = some (.ref mr) := by
    obtain ⟨cc, kc, m1, m2, m3, -⟩ := M
    obtain ⟨k', q1, ek⟩ := hZ.alike.2.2 _ _ m2
    have q2 : s.vm.findClass C = some cc := by rw [hZ.alike.findClass]; exact m1
    have q3 : k'.mirror = some mr := by rw [ek]; exact m3
    simp [Term.eval, q2, q1, q3]
  obtain ⟨vm', X', st'⟩ := X.ldcMirror hx hown (mvT hZ w1) hev (g := mkF m pc Ls st) rfl hd
  exact Go.to st' (kk _ X' eT)
theorem g_cp (X : Stand p l e R s m args below meth c T locs cells slots) (hx : p.tables.exec = Jvm.exec) (hZ : Z.Warmed39 s.vm) (hown : s.vm.findClass own = some m.cls) (w1 : (Jvm.Cond.methodLink own index Jvm.Stand.acN).before a0 Z = true) (w2 : (Jvm.Cond.native Jvm.Stand.acN).before a0 Z = true) (w3 : (Jvm.Cond.static Jvm.Stand.acN).before a0 Z = true) (w4 : (Jvm.Cond.initialized "java/lang/System").before a0 Z = true) {b : Addr} {k' : ClassId} {ty' : FieldType} {z' sp dp nn : Int32} {vd us : List Value} {d2 : Value} (A : Arv Z h a kc ty z vs d) (B : Arv Z h b k' ty' z' vd d2) (hty : (ty = ty' ∧ refKind ty = false) ∨ (refKind ty = true ∧ refKind ty' = true ∧ StoL Z h b us)) (h1 : ¬ sp < 0) (h2 : ¬ dp < 0) (h3 : ¬ nn < 0) (h4 : sp.toNatClampNeg + nn.toNatClampNeg ≤ z.toNatClampNeg) (h5 : dp.toNatClampNeg + nn.toNatClampNeg ≤ z'.toNatClampNeg) (hus : us = (List.range nn.toNatClampNeg).map fun i => vs.getD (sp.toNatClampNeg + i) d) (hl : dp.toNatClampNeg + nn.toNatClampNeg ≤ vd.length) {n0 : Nat} (N : Fr n0 locs) (ge : n0 ≤ b) (hsize : Ls.size = c.maxLocals) (hf : 1 ≤ R.frames) {W : Nat} (hW : (st.map fun v => v.category).sum ≤ W) (hlo : W + (nativeFrameWords "java/lang/System" "arraycopy" 5 + 11) ≤ R.locals) (eT : T.heap = h) (hd : decode c.code pc = .ok (.invokestatic index, 3)) (hq : pc + 3 = q) (kk : ∀ (T' : State) (h' : Heap) (L : List Loc), Stand p l e R s m args below meth c T' L cells slots → T'.heap = h' → Fr n0 L → Keep h h' [b] → Arv Z h' b k' ty' z' (vd.take dp.toNatClampNeg ++ us ++ vd.drop (dp.toNatClampNeg + nn.toNatClampNeg)) d2 → Go p.tables e below Q (T'.setTop (mkF m q Ls st))) : Go p.tables e below Q (T.setTop (mkF m pc Ls (.int nn :: .int dp :: .ref b :: .int sp :: .ref a :: st))) := by
  subst hq
  obtain ⟨T', h', L, X', e', N', K', V', st'⟩ := cpA X hx hZ hown w1 w2 w3 w4 eT A B hty h1 h2 h3 h4 h5 hus hl N ge (g := mkF m pc Ls (.int nn :: .int dp :: .ref b :: .int sp :: .ref a :: st)) rfl hsize rfl hd hf (W := W) (by show 2 * 0 + _ ≤ _; omega) hlo
  exact Go.to st' (kk T' h' L X' e' N' K' V')
theorem g_tsw (X : Stand p l e R s m args below meth c T locs cells slots) (hx : p.tables.exec = Jvm.exec) {dflt low high : Int} {offs : Array Int} {len : Nat} {j : Int} (hd : decode c.code pc = .ok (.tableswitch dflt low high offs, len)) (hin : ¬ (x.toInt < low ∨ x.toInt > high)) (hoff : offs[(x.toInt - low).toNat]? = some j) (ho : 0 ≤ (pc : Int) + j) (hp : ((pc : Int) + j).toNat = q) (kk : Go p.tables e below Q (T.setTop (mkF m q Ls st))) : Go p.tables e below Q (T.setTop (mkF m pc Ls (.int x :: st))) :=
  Go.st (S' := T.setTop (mkF m q Ls st)) (fun {t} hr => XS.tswIn (g := mkF m pc Ls (.int x :: st)) (pc0 := pc) (pc' := q) X.here hx rfl rfl hd rfl hin hoff ho hp hr) kk
theorem g_pv {y : MethodName} {bytes : ByteArray} {maxL : Nat} {ret : Option FieldType} {W nk ns : Nat} {argsL st0 : List Value} {Qc : Option Value → Heap → List Loc → Prop} (X : Stand p l e R s m args below meth c T locs cells slots) (hx : p.tables.exec = Jvm.exec) (hZ : Z.Warmed39 s.vm) (hown : s.vm.findClass own = some m.cls) (w1 : (Jvm.Cond.methodLink own index y).before a0 Z = true) (w2 : (Jvm.Cond.instanceMethod y).before a0 Z = true) (w3 : (Jvm.Cond.selects y.cls y y).before a0 Z = true) (w4 : (Jvm.Cond.privateMethod y).before a0 Z = true) (w5 : (Jvm.Cond.code y bytes maxL ret).before a0 Z = true) (hyc : y.cls ≠ "java/lang/invoke/MethodHandle" ∧ y.cls ≠ "java/lang/invoke/VarHandle") (E : Exa Z h a C) (eT : T.heap = h) (hK : BackQ l R p e below s args y 3 W (.ref a :: argsL).toArray h nk ns Qc) (hsize : Ls.size = c.maxLocals) (hlen : ∀ sig, parseMethodDescriptor y.desc = some sig → argsL.length = sig.parameters.length) (hst : st0 = argsL.reverse ++ .ref a :: st) (hW : (st.map fun v => v.category).sum ≤ W) (hd : decode c.code pc = .ok (.invokevirtual index, 3)) (hq : pc + 3 = q) (hc : cells + nk ≤ R.cells) (hs : slots + ns ≤ R.slots) (kk : ∀ (v : Option Value) (T' : State) (L : List Loc), Stand p l e R s m args below meth c T' (locs ++ L) (cells + nk) (slots + ns) → Qc v T'.heap L → Go p.tables e below Q (T'.setTop (mkF m q Ls (v.toList ++ st)))) : Go p.tables e below Q (T.setTop (mkF m pc Ls st0)) := by
  subst hq
  obtain ⟨cq, q1, q2⟩ := E.cell
  obtain ⟨v, vm1, ⟨T', L', k', n'⟩, -, X', ⟨L, hQ, rfl, rfl, rfl⟩, st'⟩ := X.privateBack hx hown (mvT hZ w1) (mvT hZ w2) (mvT hZ w3) (Cond.privateMethod_at (mvP hZ w4 (args := #[]))) (mvT hZ w5) hyc hK (g := mkF m pc Ls st0) rfl hsize (Steps.refl _) (a := a) (by rw [eT]; exact q1) q2 hlen hst (by show 2 * 0 + _ ≤ _; omega) hd (fun _ _ => ⟨rfl, eT, hc, hs⟩)
  exact Go.run st' (kk v T' L X' hQ)
end Steps1
end Jvm.OwnKit
namespace Jvm.Pilot.@@N@@
open Jvm Jvm.ClassFile Sem Op Lib Jvm.Free Jvm.Stand Jvm.LawKit Jvm.RoadKit Jvm.OwnKit Bundle Jvm.Pilot.@@N@@.Jvm.D
def chr (x : Int32) : Int32 := (x &&& 255).toUInt32.toUInt16.toUInt32.toInt32
theorem chr_eq (x : Int32) : chr x = x &&& 255 := i2c_mask x
theorem chr_rng (x : Int32) : ¬ chr x < 0 ∧ ¬ (255 : Int32) < chr x := by
  rw [chr_eq]
  have h := c_mask x 255 8 (by decide) (by decide)
  simp only [Int32.lt_iff_toInt_lt]
  have h0 : (0 : Int32).toInt = 0 := by decide
  have h1 : (255 : Int32).toInt = 255 := by decide
  rw [h, h0, h1]
  have : (2 ^ 8 : Nat) = 256 := by decide
  omega
theorem chr_nar (x : Int32) : nar .char (chr x) = chr x := by simp only [nar, chr, UInt32.toUInt32_toInt32, UInt16.toUInt16_toUInt32]
theorem al0 {P : Int32 → Prop} : ∀ c ∈ ([] : List Int32), P c := fun _ q => nomatch q
theorem alS {P : Int32 → Prop} {y : Int32} {L : List Int32} (q : P y) (r : ∀ x ∈ L, P x) : ∀ x ∈ y :: L, P x := fun x z => (List.mem_cons.mp z).elim (fun u => u ▸ q) (r x)
theorem shr_zero (x : Int32) : x >>> ((0 : Int32) &&& 31) = x := by
  rw [show ((0 : Int32) &&& 31) = 0 from by decide]
  exact Int32.toInt_inj.mp (by rw [show x >>> (0 : Int32) = x >>> ((0 : Int32) &&& 31) from by rw [show ((0 : Int32) &&& 31) = 0 from by decide], c_ishr x 0 0 (by decide)]; simp)
abbrev EL : List (String × Nat) := [("java/lang/String", 7)]
theorem wd156 {a0 : Array Value} {Z : State} (hw : ∀ d ∈ tables_1, d.before a0 Z = true) : ((Jvm.Cond.stringLink "java/lang/String" (7 : Nat) "") : Jvm.Cond).before a0 Z = true := hw _ (List.mem_of_getElem? (i := 156) rfl)
theorem own_EW {a0 : Array Value} {Z : State} (hw : ∀ d ∈ tables_1, d.before a0 Z = true) : EW Z a0 EL := EW.cons (wd156 hw) (by decide) (EW.nil)
theorem own_wS {a0 : Array Value} {Z : State} (hw : ∀ d ∈ tables_1, d.before a0 Z = true) : ∀ d ∈ Bundle.stringAtoms, d.before a0 Z = true := fun d hd => hw d ((by decide +kernel : ∀ d ∈ Bundle.stringAtoms, d ∈ tables_1) d hd)
theorem own_wStr {a0 : Array Value} {Z : State} (hw : ∀ d ∈ tables_1, d.before a0 Z = true) : ∀ d ∈ StrChars.Road.words, d.before a0 Z = true := fun d hd => hw d ((by decide +kernel : ∀ d ∈ StrChars.Road.words, d ∈ tables_1) d hd)
theorem d_jdk_42m149_0 : decode jdk_42_method_149_code 0 = .ok (.aload_n 0, 1) := by decide +kernel
theorem d_jdk_42m149_1 : decode jdk_42_method_149_code 1 = .ok (.invokespecial 1, 3) := by decide +kernel
theorem wd11 {a0 : Array Value} {Z : State} (hw : ∀ d ∈ tables_1, d.before a0 Z = true) : ((Jvm.Cond.methodLink "java/lang/String" (1 : Nat) ({ cls := "java/lang/Object", name := "<init>", desc := "()V" } : Jvm.MethodName)) : Jvm.Cond).before a0 Z = true := hw _ (List.mem_of_getElem? (i := 11) rfl)
theorem wd12 {a0 : Array Value} {Z : State} (hw : ∀ d ∈ tables_1, d.before a0 Z = true) : ((Jvm.Cond.instanceMethod ({ cls := "java/lang/Object", name := "<init>", desc := "()V" } : Jvm.MethodName)) : Jvm.Cond).before a0 Z = true := hw _ (List.mem_of_getElem? (i := 12) rfl)
theorem wd13 {a0 : Array Value} {Z : State} (hw : ∀ d ∈ tables_1, d.before a0 Z = true) : ((Jvm.Cond.code ({ cls := "java/lang/Object", name := "<init>", desc := "()V" } : Jvm.MethodName) object_method_1_code (1 : Nat) (Option.none : Option Jvm.ClassFile.FieldType)) : Jvm.Cond).before a0 Z = true := hw _ (List.mem_of_getElem? (i := 13) rfl)
theorem d_jdk_42m149_4 : decode jdk_42_method_149_code 4 = .ok (.iload_n 3, 1) := by decide +kernel
theorem d_jdk_42m149_5 : decode jdk_42_method_149_code 5 = .ok (.ifCond .ne 22, 3) := by decide +kernel
theorem d_jdk_42m149_8 : decode jdk_42_method_149_code 8 = .ok (.aload_n 0, 1) := by decide +kernel
theorem d_jdk_42m149_9 : decode jdk_42_method_149_code 9 = .ok (.ldc 7, 2) := by decide +kernel
theorem d_jdk_42m149_11 : decode jdk_42_method_149_code 11 = .ok (.getfield 9, 3) := by decide +kernel
theorem wd28 {a0 : Array Value} {Z : State} (hw : ∀ d ∈ tables_1, d.before a0 Z = true) : ((Jvm.Cond.fieldLink "java/lang/String" (9 : Nat) "java/lang/String" "value" "[B") : Jvm.Cond).before a0 Z = true := hw _ (List.mem_of_getElem? (i := 28) rfl)
theorem d_jdk_42m149_14 : decode jdk_42_method_149_code 14 = .ok (.putfield 9, 3) := by decide +kernel
theorem wd29 {a0 : Array Value} {Z : State} (hw : ∀ d ∈ tables_1, d.before a0 Z = true) : ((Jvm.Cond.laysFinal "java/lang/String" "java/lang/String" "value" "[B") : Jvm.Cond).before a0 Z = true := hw _ (List.mem_of_getElem? (i := 29) rfl)
theorem wd2 {a0 : Array Value} {Z : State} (hw : ∀ d ∈ tables_1, d.before a0 Z = true) : ((Jvm.Cond.instantiable "java/lang/String" (4 : Nat)) : Jvm.Cond).before a0 Z = true := hw _ (List.mem_of_getElem? (i := 2) rfl)
theorem d_jdk_42m149_17 : decode jdk_42_method_149_code 17 = .ok (.aload_n 0, 1) := by decide +kernel
theorem d_jdk_42m149_18 : decode jdk_42_method_149_code 18 = .ok (.ldc 7, 2) := by decide +kernel
theorem d_jdk_42m149_20 : decode jdk_42_method_149_code 20 = .ok (.getfield 15, 3) := by decide +kernel
theorem wd26 {a0 : Array Value} {Z : State} (hw : ∀ d ∈ tables_1, d.before a0 Z = true) : ((Jvm.Cond.fieldLink "java/lang/String" (15 : Nat) "java/lang/String" "coder" "B") : Jvm.Cond).before a0 Z = true := hw _ (List.mem_of_getElem? (i := 26) rfl)
theorem d_jdk_42m149_23 : decode jdk_42_method_149_code 23 = .ok (.putfield 15, 3) := by decide +kernel
theorem wd27 {a0 : Array Value} {Z : State} (hw : ∀ d ∈ tables_1, d.before a0 Z = true) : ((Jvm.Cond.laysFinal "java/lang/String" "java/lang/String" "coder" "B") : Jvm.Cond).before a0 Z = true := hw _ (List.mem_of_getElem? (i := 27) rfl)
theorem d_jdk_42m149_26 : decode jdk_42_method_149_code 26 = .ok (.return_, 1) := by decide +kernel
def Q_new4e (Z : State) (zC : Int32) (aE : Addr) (a1 : Addr) (a2 : Addr) (h0 : Heap) (v : Option Value) (h : Heap) (L : List Loc) : Prop := ∃ (t : Addr), ∃ (kb : ClassId), v = none ∧ Fr Z.heap.size L ∧ Keep h0 h [a1] ∧ Exa Z h a1 "java/lang/String" ∧ Fld Z h a1 "java/lang/String" "value" "[B" (.ref t) ∧ Fld Z h a1 "java/lang/String" "coder" "B" (.int (0 : Int32)) ∧ Arv Z h t kb .byte (0 : Int32) [] (.int 0)
theorem pn0 : plainName "java/lang/String" = true := by first | (simp [plainName, overriddenIn]; done) | decide +kernel
set_option maxRecDepth 65536 in
set_option maxHeartbeats 40000000 in
theorem rm_new4e (l : Launch) (Z : State) (a0 : Array Value) (hw : ∀ d ∈ tables_1, d.before a0 Z = true) (zC : Int32) (SC : Sta Z Z.heap "java/lang/String" "COMPACT_STRINGS" "Z" (.int zC)) (PC : ¬ zC = (0 : Int32)) (aE : Addr) (SE : Sta Z Z.heap "java/util/ImmutableCollections" "EMPTY_LIST" "Ljava/util/ImmutableCollections$ListN;" (.ref aE)) (a1 : Addr) (a2 : Addr) (h0 : Heap) (O0 : Old Z Z.heap.size h0) (P1 : Exa Z h0 a1 "java/lang/String") (P2 : Fld Z h0 a1 "java/lang/String" "value" "[B" .null) (P3 : Fld Z h0 a1 "java/lang/String" "coder" "B" (.int (0 : Int32))) (P4 : Z.heap.size ≤ a1) :
    ConS l Z EL (⟨"java/lang/String", "<init>", "([CIILjava/lang/Void;)V"⟩ : MethodName) jdk_42_method_149_code 6 none ({ frames := 1, cells := 4, slots := 8, locals := 12 } : Room) #[(.ref a1), (.ref a2), (.int (0 : Int32)), (.int (0 : Int32)), .null] h0 [a1] (Q_new4e Z zC aE a1 a2 h0) := by
  refine ConS.intro pn0 ?_
  intro p e s m below meth c T0 v0 X0 hx hby hml hown0 hnm hret hlk hZ0 e0 hS0 C0 hsl0
  have P5 := hsl0 a1 (by simp)
  have N0 := Fr.nil Z.heap.size
  refine castGo (g' := mkF m 0 #[.val (.ref a1), .val (.ref a2), .val (.int (0 : Int32)), .val (.int (0 : Int32)), .val .null, .unset] []) (by first | rfl | (simp [entryFrame, mkF, argsToLocals, Value.category]; done)) ?_
  show Go _ _ _ _ (T0.setTop (mkF m 0 #[.val (.ref a1), .val (.ref a2), .val (.int (0 : Int32)), .val (.int (0 : Int32)), .val .null, .unset] []))
  refine aL X0 hx (hb hby d_jdk_42m149_0) (q := 1) rfl rfl rfl ?_
  refine g_init0 X0 hx hZ0 hown0 (wd11 hw) (wd12 hw) (wd13 hw) (by rw [hml]; rfl) (by decide) (W := 0) (Nat.le_of_eq rfl) (by decide) e0 (hb hby d_jdk_42m149_1) (q := 4) rfl ?_
  intro T1 X1 e1
  refine iL X1 hx (hb hby d_jdk_42m149_4) (q := 5) rfl rfl ?_
  refine ifN X1 hx (hb hby d_jdk_42m149_5) (q := 8) rfl (by decide) ?_
  refine aL X1 hx (hb hby d_jdk_42m149_8) (q := 9) rfl rfl rfl ?_
  refine g_ldc X1 hx hZ0 hown0 (wd156 hw) (own_wS hw) hS0 (Nat.zero_le _) (own_EW hw) (by simp [EL]) C0.1 (vs := []) (z := (0 : Int32)) ⟨by decide, by decide⟩ (by decide) (by decide) (n := 0) (by decide) (by decide) (by decide) (by decide) e1 (hb hby d_jdk_42m149_9) (q := 11) rfl ?_
  intro b2 T2 h2 kk2 d2 k2 X2 e2 E2 hS2 hk2 hZ2 hown2 A2 Fc2 Fv2 V2 lta2 ltb2 R2 sn2
  refine g_getF X2 hx hZ2 hown2 (host := "") (Or.inl (wd28 hw)) Via.refl Fv2 e2 (hb hby d_jdk_42m149_11) (q := 14) rfl ?_
  intro T3 X3 e3
  have f4 : Fld Z h2 a1 "java/lang/String" "value" "[B" .null := P2.ext E2
  have f5 : Exa Z h2 a1 "java/lang/String" := P1.ext E2
  have f7 : CHr Z EL s.vm s.heap T2.vm h2 := C0.trans R2
  have f8 : Safe Z EL T2.vm h2 a1 := R2.safe (Nat.lt_of_lt_of_le P1.lt (Nat.le_refl _)) P5
  refine g_putF X3 hx hZ2 hown2 (host := "") (Or.inl (wd28 hw)) Via.refl f4 f5 (Or.inr ⟨(wd29 hw), rfl, hnm⟩) (wd2 hw) (ty := (.array .byte)) (by decide) rfl rfl e3 (hb hby d_jdk_42m149_14) (q := 17) rfl ?_
  intro T6 h6 X6 e6 W6
  have N6 := Fr.snoc X6 N0 P4
  have Fw6 : Fld Z h6 a1 "java/lang/String" "value" "[B" (.ref d2) := f4.same W6
  refine aL X6 hx (hb hby d_jdk_42m149_17) (q := 18) rfl rfl rfl ?_
  have f10 : CHr Z EL s.vm s.heap T2.vm h6 := f7.trans (CHr.wr W6 f8 f7.1)
  have le11 : (h2).size ≤ (h6).size := (Nat.le_of_eq (Wr.size W6).symm)
  refine g_ldc X6 hx hZ2 hown2 (wd156 hw) (own_wS hw) hS2 (Nat.le_trans hk2 le11) (own_EW hw) (by simp [EL]) f10.1 (vs := []) (z := (0 : Int32)) ⟨by decide, by decide⟩ (by decide) (by decide) (n := 0) (by decide) (by decide) (by decide) (by decide) e6 (hb hby d_jdk_42m149_18) (q := 20) rfl ?_
  intro b9 T9 h9 kk9 d9 k9 X9 e9 E9 hS9 hk9 hZ9 hown9 A9 Fc9 Fv9 V9 lta9 ltb9 R9 sn9
  refine g_getF X9 hx hZ9 hown9 (host := "") (Or.inl (wd26 hw)) Via.refl Fc9 e9 (hb hby d_jdk_42m149_20) (q := 23) rfl ?_
  intro T12 X12 e12
  have f13 : Fld Z h2 a1 "java/lang/String" "coder" "B" (.int (0 : Int32)) := P3.ext E2
  have f14 : Fld Z h6 a1 "java/lang/String" "coder" "B" (.int (0 : Int32)) := f13.other W6 (Or.inr (slot_ne (Or.inr (wd27 hw)) (Or.inr (wd29 hw)) (by decide) (t := .byte) (t' := (.array .byte)) (by decide) (by decide)))
  have f15 : Fld Z h9 a1 "java/lang/String" "coder" "B" (.int (0 : Int32)) := f14.ext E9
  have f16 : Exa Z h6 a1 "java/lang/String" := f5.wr W6
  have f17 : Exa Z h9 a1 "java/lang/String" := f16.ext E9
  have f19 : CHr Z EL s.vm s.heap T9.vm h9 := f10.trans R9
  have f20 : Safe Z EL T2.vm h6 a1 := Safe.wr W6 f8 f7.1 f8
  have le21 : (h0).size ≤ (h2).size := E2.1
  have le22 : (h0).size ≤ (h6).size := (Nat.le_trans le21 (Nat.le_of_eq (Wr.size W6).symm))
  have f23 : Safe Z EL T9.vm h9 a1 := R9.safe (Nat.lt_of_lt_of_le P1.lt le22) f20
  refine g_putF X12 hx hZ9 hown9 (host := "") (Or.inl (wd26 hw)) Via.refl f15 f17 (Or.inr ⟨(wd27 hw), rfl, hnm⟩) (wd2 hw) (ty := .byte) (by decide) rfl rfl e12 (hb hby d_jdk_42m149_23) (q := 26) rfl ?_
  intro T18 h18 X18 e18 W18
  have N18 := Fr.snoc X18 N6 P4
  have Fw18 : Fld Z h18 a1 "java/lang/String" "coder" "B" (.int (0 : Int32)) := f15.same W18
  have K24 : Keep h0 h2 [a1] := (Keep.refl h0 [a1]).ext E2
  have K25 : Keep h0 h6 [a1] := K24.wr W6 (Or.inl (by simp))
  have K26 : Keep h0 h9 [a1] := K25.ext E9
  have K27 : Keep h0 h18 [a1] := K26.wr W18 (Or.inl (by simp))
  have f28 : Exa Z h18 a1 "java/lang/String" := f17.wr W18
  have f29 : Fld Z h9 a1 "java/lang/String" "value" "[B" (.ref d2) := Fw6.ext E9
  have f30 : Fld Z h18 a1 "java/lang/String" "value" "[B" (.ref d2) := f29.other W18 (Or.inr (slot_ne (Or.inr (wd29 hw)) (Or.inr (wd27 hw)) (by decide) (t := (.array .byte)) (t' := .byte) (by decide) (by decide)))
  have ne31 : d2 ≠ a1 := (Ne.symm (sn2 _ f8).2)
  have f32 : Arv Z h6 d2 k2 .byte (0 : Int32) [] (.int 0) := V2.other W6 ne31
  have f33 : Arv Z h9 d2 k2 .byte (0 : Int32) [] (.int 0) := f32.ext E9
  have f34 : Arv Z h18 d2 k2 .byte (0 : Int32) [] (.int 0) := f33.other W18 ne31
  have le35 : (h9).size ≤ (h18).size := (Nat.le_of_eq (Wr.size W18).symm)
  have f36 : CHr Z EL s.vm s.heap T9.vm h18 := f19.trans (CHr.wr W18 f23 f19.1)
  refine endC X18 hlk hS9 (by rw [e18]; exact (Nat.le_trans hk9 le35)) hZ9 (own_EW hw) (by rw [e18]; exact f36) (fun _ => rfl) (lastV X18 hx hret (hb hby d_jdk_42m149_26)) ?_ (by decide) (by decide)
  rw [e18]
  exact ⟨d2, k2, rfl, N18, K27, f28, f30, Fw18, f34⟩
theorem d_jdk_42m3_0 : decode jdk_42_method_3_code 0 = .ok (.aload_n 0, 1) := by decide +kernel
theorem d_jdk_42m3_1 : decode jdk_42_method_3_code 1 = .ok (.aload_n 1, 1) := by decide +kernel
theorem d_jdk_42m3_2 : decode jdk_42_method_3_code 2 = .ok (.iconst 0, 1) := by decide +kernel
theorem d_jdk_42m3_3 : decode jdk_42_method_3_code 3 = .ok (.aload_n 1, 1) := by decide +kernel
theorem d_jdk_42m3_4 : decode jdk_42_method_3_code 4 = .ok (.arraylength, 1) := by decide +kernel
theorem d_jdk_42m3_5 : decode jdk_42_method_3_code 5 = .ok (.aconst_null, 1) := by decide +kernel
theorem d_jdk_42m3_6 : decode jdk_42_method_3_code 6 = .ok (.invokespecial 27, 3) := by decide +kernel
theorem wd10 {a0 : Array Value} {Z : State} (hw : ∀ d ∈ tables_1, d.before a0 Z = true) : ((Jvm.Cond.code ({ cls := "java/lang/String", name := "<init>", desc := "([CIILjava/lang/Void;)V" } : Jvm.MethodName) jdk_42_method_149_code (6 : Nat) (Option.none : Option Jvm.ClassFile.FieldType)) : Jvm.Cond).before a0 Z = true := hw _ (List.mem_of_getElem? (i := 10) rfl)
theorem wd3 {a0 : Array Value} {Z : State} (hw : ∀ d ∈ tables_1, d.before a0 Z = true) : ((Jvm.Cond.initialized "java/lang/String") : Jvm.Cond).before a0 Z = true := hw _ (List.mem_of_getElem? (i := 3) rfl)
theorem pd0 : parseMethodDescriptor "([CIILjava/lang/Void;)V" = some ⟨[(.array .char), .int, .int, (.object "java/lang/Void")], none⟩ := by decide +kernel
theorem wd7 {a0 : Array Value} {Z : State} (hw : ∀ d ∈ tables_1, d.before a0 Z = true) : ((Jvm.Cond.methodLink "java/lang/String" (27 : Nat) ({ cls := "java/lang/String", name := "<init>", desc := "([CIILjava/lang/Void;)V" } : Jvm.MethodName)) : Jvm.Cond).before a0 Z = true := hw _ (List.mem_of_getElem? (i := 7) rfl)
theorem wd8 {a0 : Array Value} {Z : State} (hw : ∀ d ∈ tables_1, d.before a0 Z = true) : ((Jvm.Cond.instanceMethod ({ cls := "java/lang/String", name := "<init>", desc := "([CIILjava/lang/Void;)V" } : Jvm.MethodName)) : Jvm.Cond).before a0 Z = true := hw _ (List.mem_of_getElem? (i := 8) rfl)
theorem d_jdk_42m3_9 : decode jdk_42_method_3_code 9 = .ok (.return_, 1) := by decide +kernel
def Q_new1e (Z : State) (zC : Int32) (aE : Addr) (a1 : Addr) (a2 : Addr) (kc : ClassId) (cl : List Value) (h0 : Heap) (v : Option Value) (h : Heap) (L : List Loc) : Prop := ∃ (t : Addr), ∃ (kb : ClassId), v = none ∧ Fr Z.heap.size L ∧ Keep h0 h [a1] ∧ Exa Z h a1 "java/lang/String" ∧ Fld Z h a1 "java/lang/String" "value" "[B" (.ref t) ∧ Fld Z h a1 "java/lang/String" "coder" "B" (.int (0 : Int32)) ∧ Arv Z h t kb .byte (0 : Int32) [] (.int 0)
set_option maxRecDepth 65536 in
set_option maxHeartbeats 40000000 in
theorem rm_new1e (l : Launch) (Z : State) (a0 : Array Value) (hw : ∀ d ∈ tables_1, d.before a0 Z = true) (zC : Int32) (SC : Sta Z Z.heap "java/lang/String" "COMPACT_STRINGS" "Z" (.int zC)) (PC : ¬ zC = (0 : Int32)) (aE : Addr) (SE : Sta Z Z.heap "java/util/ImmutableCollections" "EMPTY_LIST" "Ljava/util/ImmutableCollections$ListN;" (.ref aE)) (a1 : Addr) (a2 : Addr) (kc : ClassId) (cl : List Value) (h0 : Heap) (O0 : Old Z Z.heap.size h0) (P1 : Exa Z h0 a1 "java/lang/String") (P2 : Fld Z h0 a1 "java/lang/String" "value" "[B" .null) (P3 : Fld Z h0 a1 "java/lang/String" "coder" "B" (.int (0 : Int32))) (P4 : Z.heap.size ≤ a1) (P6 : Arv Z h0 a2 kc .char (0 : Int32) cl (.int 0)) :
    ConS l Z EL (⟨"java/lang/String", "<init>", "([C)V"⟩ : MethodName) jdk_42_method_3_code 2 none ({ frames := 2, cells := 4, slots := 8, locals := 29 } : Room) #[(.ref a1), (.ref a2)] h0 [a1] (Q_new1e Z zC aE a1 a2 kc cl h0) := by
  refine ConS.intro pn0 ?_
  intro p e s m below meth c T0 v0 X0 hx hby hml hown0 hnm hret hlk hZ0 e0 hS0 C0 hsl0
  have P5 := hsl0 a1 (by simp)
  have N0 := Fr.nil Z.heap.size
  refine castGo (g' := mkF m 0 #[.val (.ref a1), .val (.ref a2)] []) (by first | rfl | (simp [entryFrame, mkF, argsToLocals, Value.category]; done)) ?_
  show Go _ _ _ _ (T0.setTop (mkF m 0 #[.val (.ref a1), .val (.ref a2)] []))
  refine aL X0 hx (hb hby d_jdk_42m3_0) (q := 1) rfl rfl rfl ?_
  refine aL X0 hx (hb hby d_jdk_42m3_1) (q := 2) rfl rfl rfl ?_
  refine cI X0 hx (hb hby d_jdk_42m3_2) (q := 3) rfl (z := (0 : Int32)) rfl ?_
  refine aL X0 hx (hb hby d_jdk_42m3_3) (q := 4) rfl rfl rfl ?_
  refine g_len X0 hx hZ0 P6 e0 (hb hby d_jdk_42m3_4) (q := 5) rfl ?_
  refine cN X0 hx (hb hby d_jdk_42m3_5) (q := 6) rfl ?_
  refine g_spS X0 hx hZ0 hown0 hS0 (Nat.zero_le _) (wd7 hw) (wd8 hw) (wd10 hw) rfl (by decide) e0 (ConS.back (W := 0) (rm_new4e l Z a0 hw zC SC PC aE SE a1 a2 h0 O0 P1 P2 P3 P4) hZ0 (wd10 hw) (wd3 hw) (by decide) (by decide) (own_EW hw) C0.1 (sfS P5 sf0) (allS (Nat.lt_of_lt_of_le P1.lt (Nat.le_refl _)) all0)) (by rw [hml]; rfl) (lenOf pd0 rfl) rfl (Nat.le_of_eq rfl) (hb hby d_jdk_42m3_6) (q := 9) rfl (by decide) (by decide) ?_
  rintro v37 T37 L37 ⟨X37, hS37, hZ37, hown37, R37⟩ Q37
  obtain ⟨t_37, kb_37, rfl, Nq37, K37q, q37_0, q37_1, q37_2, q37_3⟩ := Q37
  have N37 := Fr.app N0 Nq37
  show Go _ _ _ _ (T37.setTop (mkF m 9 #[.val (.ref a1), .val (.ref a2)] []))
  have K38 : Keep h0 T37.heap [a1] := (Keep.refl h0 [a1]).trans K37q (allS (Or.inl (by simp)) all0)
  have f39 : CHr Z EL s.vm s.heap T37.vm T37.heap := C0.trans R37
  refine endC X37 hlk hS37 (Nat.le_trans (Nat.le_refl _) (Nat.le_refl _)) hZ37 (own_EW hw) f39 (fun _ => rfl) (lastV X37 hx hret (hb hby d_jdk_42m3_9)) ?_ (by decide) (by decide)
  exact ⟨t_37, kb_37, rfl, N37, K38, q37_0, q37_1, q37_2, q37_3⟩
theorem d_jdk_40m36_0 : decode jdk_40_method_36_code 0 = .ok (.getstatic 90, 3) := by decide +kernel
theorem wd40 {a0 : Array Value} {Z : State} (hw : ∀ d ∈ tables_1, d.before a0 Z = true) : ((Jvm.Cond.fieldLink "java/util/List" (90 : Nat) "java/util/ImmutableCollections" "EMPTY_LIST" "Ljava/util/ImmutableCollections$ListN;") : Jvm.Cond).before a0 Z = true := hw _ (List.mem_of_getElem? (i := 40) rfl)
theorem d_jdk_40m36_3 : decode jdk_40_method_36_code 3 = .ok (.areturn, 1) := by decide +kernel
def Q_listof (Z : State) (zC : Int32) (aE : Addr) (h0 : Heap) (v : Option Value) (h : Heap) (L : List Loc) : Prop := v = some (.ref aE) ∧ Fr Z.heap.size L ∧ h = h0
theorem pn1 : plainName "java/util/List" = true := by first | (simp [plainName, overriddenIn]; done) | decide +kernel
set_option maxRecDepth 65536 in
set_option maxHeartbeats 40000000 in
theorem rm_listof (l : Launch) (Z : State) (a0 : Array Value) (hw : ∀ d ∈ tables_1, d.before a0 Z = true) (zC : Int32) (SC : Sta Z Z.heap "java/lang/String" "COMPACT_STRINGS" "Z" (.int zC)) (PC : ¬ zC = (0 : Int32)) (aE : Addr) (SE : Sta Z Z.heap "java/util/ImmutableCollections" "EMPTY_LIST" "Ljava/util/ImmutableCollections$ListN;" (.ref aE))  (h0 : Heap) (O0 : Old Z Z.heap.size h0)  :
    Con l Z (⟨"java/util/List", "of", "()Ljava/util/List;"⟩ : MethodName) jdk_40_method_36_code 0 (some (.object "java/util/List")) ({ frames := 0, cells := 0, slots := 0, locals := 0 } : Room) #[] h0 (Q_listof Z zC aE h0) := by
  refine Con.intro pn1 ?_
  intro p e s m below meth c T0 X0 hx hby hml hown0 hnm hret hlk hZ0 e0
  have N0 := Fr.nil Z.heap.size
  refine castGo (g' := mkF m 0 #[] []) (by first | rfl | (simp [entryFrame, mkF, argsToLocals, Value.category]; done)) ?_
  show Go _ _ _ _ (T0.setTop (mkF m 0 #[] []))
  refine g_getS X0 hx hZ0 hown0 (host := "") (Or.inl (wd40 hw)) Via.refl (SE.ext O0.2) e0 (hb hby d_jdk_40m36_0) (q := 3) rfl ?_
  intro T40 X40 e40
  refine endP X40 hlk (fun h => by rw [hret] at h; cases h) (lastA X40 hx hret rfl rfl rfl (hb hby d_jdk_40m36_3)) ?_ (by decide) (by decide)
  rw [e40]
  exact ⟨rfl, N0, rfl⟩
theorem d_jdk_30m1_0 : decode jdk_30_method_1_code 0 = .ok (.aload_n 0, 1) := by decide +kernel
theorem d_jdk_30m1_1 : decode jdk_30_method_1_code 1 = .ok (.invokespecial 1, 3) := by decide +kernel
theorem wd50 {a0 : Array Value} {Z : State} (hw : ∀ d ∈ tables_1, d.before a0 Z = true) : ((Jvm.Cond.methodLink "java/lang/Record" (1 : Nat) ({ cls := "java/lang/Object", name := "<init>", desc := "()V" } : Jvm.MethodName)) : Jvm.Cond).before a0 Z = true := hw _ (List.mem_of_getElem? (i := 50) rfl)
theorem d_jdk_30m1_4 : decode jdk_30_method_1_code 4 = .ok (.return_, 1) := by decide +kernel
def Q_recinit (Z : State) (zC : Int32) (aE : Addr) (a1 : Addr) (h0 : Heap) (v : Option Value) (h : Heap) (L : List Loc) : Prop := v = none ∧ Fr Z.heap.size L ∧ h = h0
theorem pn2 : plainName "java/lang/Record" = true := by first | (simp [plainName, overriddenIn]; done) | decide +kernel
set_option maxRecDepth 65536 in
set_option maxHeartbeats 40000000 in
theorem rm_recinit (l : Launch) (Z : State) (a0 : Array Value) (hw : ∀ d ∈ tables_1, d.before a0 Z = true) (zC : Int32) (SC : Sta Z Z.heap "java/lang/String" "COMPACT_STRINGS" "Z" (.int zC)) (PC : ¬ zC = (0 : Int32)) (aE : Addr) (SE : Sta Z Z.heap "java/util/ImmutableCollections" "EMPTY_LIST" "Ljava/util/ImmutableCollections$ListN;" (.ref aE)) (a1 : Addr) (h0 : Heap) (O0 : Old Z Z.heap.size h0)  :
    Con l Z (⟨"java/lang/Record", "<init>", "()V"⟩ : MethodName) jdk_30_method_1_code 1 none ({ frames := 1, cells := 0, slots := 0, locals := 12 } : Room) #[(.ref a1)] h0 (Q_recinit Z zC aE a1 h0) := by
  refine Con.intro pn2 ?_
  intro p e s m below meth c T0 X0 hx hby hml hown0 hnm hret hlk hZ0 e0
  have N0 := Fr.nil Z.heap.size
  refine castGo (g' := mkF m 0 #[.val (.ref a1)] []) (by first | rfl | (simp [entryFrame, mkF, argsToLocals, Value.category]; done)) ?_
  show Go _ _ _ _ (T0.setTop (mkF m 0 #[.val (.ref a1)] []))
  refine aL X0 hx (hb hby d_jdk_30m1_0) (q := 1) rfl rfl rfl ?_
  refine g_init0 X0 hx hZ0 hown0 (wd50 hw) (wd12 hw) (wd13 hw) (by rw [hml]; rfl) (by decide) (W := 0) (Nat.le_of_eq rfl) (by decide) e0 (hb hby d_jdk_30m1_1) (q := 4) rfl ?_
  intro T41 X41 e41
  refine endP X41 hlk (fun _ => rfl) (lastV X41 hx hret (hb hby d_jdk_30m1_4)) ?_ (by decide) (by decide)
  rw [e41]
  exact ⟨rfl, N0, rfl⟩
theorem d_jdk_56m3_0 : decode jdk_56_method_3_code 0 = .ok (.aload_n 0, 1) := by decide +kernel
theorem d_jdk_56m3_1 : decode jdk_56_method_3_code 1 = .ok (.instanceof 10, 3) := by decide +kernel
theorem wd57 {a0 : Array Value} {Z : State} (hw : ∀ d ∈ tables_1, d.before a0 Z = true) : ((Jvm.Cond.classLink "java/util/ImmutableCollections" (10 : Nat) "java/util/ImmutableCollections$List12") : Jvm.Cond).before a0 Z = true := hw _ (List.mem_of_getElem? (i := 57) rfl)
theorem d_jdk_56m3_4 : decode jdk_56_method_3_code 4 = .ok (.ifCond .ne 22, 3) := by decide +kernel
theorem d_jdk_56m3_26 : decode jdk_56_method_3_code 26 = .ok (.aload_n 0, 1) := by decide +kernel
theorem d_jdk_56m3_27 : decode jdk_56_method_3_code 27 = .ok (.checkcast 18, 3) := by decide +kernel
theorem wd67 {a0 : Array Value} {Z : State} (hw : ∀ d ∈ tables_1, d.before a0 Z = true) : ((Jvm.Cond.classLink "java/util/ImmutableCollections" (18 : Nat) "java/util/List") : Jvm.Cond).before a0 Z = true := hw _ (List.mem_of_getElem? (i := 67) rfl)
theorem wd68 {a0 : Array Value} {Z : State} (hw : ∀ d ∈ tables_1, d.before a0 Z = true) : ((Jvm.Cond.castable "java/util/ImmutableCollections$ListN" "java/util/List") : Jvm.Cond).before a0 Z = true := hw _ (List.mem_of_getElem? (i := 68) rfl)
theorem d_jdk_56m3_30 : decode jdk_56_method_3_code 30 = .ok (.areturn, 1) := by decide +kernel
theorem d_jdk_56m3_7 : decode jdk_56_method_3_code 7 = .ok (.aload_n 0, 1) := by decide +kernel
theorem d_jdk_56m3_8 : decode jdk_56_method_3_code 8 = .ok (.instanceof 12, 3) := by decide +kernel
theorem wd63 {a0 : Array Value} {Z : State} (hw : ∀ d ∈ tables_1, d.before a0 Z = true) : ((Jvm.Cond.classLink "java/util/ImmutableCollections" (12 : Nat) "java/util/ImmutableCollections$ListN") : Jvm.Cond).before a0 Z = true := hw _ (List.mem_of_getElem? (i := 63) rfl)
theorem d_jdk_56m3_11 : decode jdk_56_method_3_code 11 = .ok (.ifCond .eq 20, 3) := by decide +kernel
theorem d_jdk_56m3_14 : decode jdk_56_method_3_code 14 = .ok (.aload_n 0, 1) := by decide +kernel
theorem d_jdk_56m3_15 : decode jdk_56_method_3_code 15 = .ok (.checkcast 12, 3) := by decide +kernel
theorem d_jdk_56m3_18 : decode jdk_56_method_3_code 18 = .ok (.astore_n 1, 1) := by decide +kernel
theorem d_jdk_56m3_19 : decode jdk_56_method_3_code 19 = .ok (.aload_n 1, 1) := by decide +kernel
theorem d_jdk_56m3_20 : decode jdk_56_method_3_code 20 = .ok (.getfield 14, 3) := by decide +kernel
theorem wd65 {a0 : Array Value} {Z : State} (hw : ∀ d ∈ tables_1, d.before a0 Z = true) : ((Jvm.Cond.fieldLinkNest "java/util/ImmutableCollections" (14 : Nat) "java/util/ImmutableCollections$ListN" "allowNulls" "Z" "java/util/ImmutableCollections") : Jvm.Cond).before a0 Z = true := hw _ (List.mem_of_getElem? (i := 65) rfl)
theorem d_jdk_56m3_23 : decode jdk_56_method_3_code 23 = .ok (.ifCond .ne 8, 3) := by decide +kernel
def Q_listcopy (Z : State) (zC : Int32) (aE : Addr) (eA : Addr) (eK : ClassId) (eL : List Value) (h0 : Heap) (v : Option Value) (h : Heap) (L : List Loc) : Prop := v = some (.ref aE) ∧ Fr Z.heap.size L ∧ h = h0
theorem pn3 : plainName "java/util/ImmutableCollections" = true := by first | (simp [plainName, overriddenIn]; done) | decide +kernel
set_option maxRecDepth 65536 in
set_option maxHeartbeats 40000000 in
theorem rm_listcopy (l : Launch) (Z : State) (a0 : Array Value) (hw : ∀ d ∈ tables_1, d.before a0 Z = true) (zC : Int32) (SC : Sta Z Z.heap "java/lang/String" "COMPACT_STRINGS" "Z" (.int zC)) (PC : ¬ zC = (0 : Int32)) (aE : Addr) (SE : Sta Z Z.heap "java/util/ImmutableCollections" "EMPTY_LIST" "Ljava/util/ImmutableCollections$ListN;" (.ref aE)) (eA : Addr) (eK : ClassId) (eL : List Value) (h0 : Heap) (O0 : Old Z Z.heap.size h0) (PE1 : Exa Z h0 aE "java/util/ImmutableCollections$ListN") (PE2 : Fld Z h0 aE "java/util/ImmutableCollections$ListN" "elements" "[Ljava/lang/Object;" (.ref eA)) (PE3 : Arv Z h0 eA eK (.object "java/lang/Object") (0 : Int32) eL .null) (PE4 : Fld Z h0 aE "java/util/ImmutableCollections$ListN" "allowNulls" "Z" (.int (0 : Int32))) :
    Con l Z (⟨"java/util/ImmutableCollections", "listCopy", "(Ljava/util/Collection;)Ljava/util/List;"⟩ : MethodName) jdk_56_method_3_code 2 (some (.object "java/util/List")) ({ frames := 0, cells := 0, slots := 0, locals := 0 } : Room) #[(.ref aE)] h0 (Q_listcopy Z zC aE eA eK eL h0) := by
  refine Con.intro pn3 ?_
  intro p e s m below meth c T0 X0 hx hby hml hown0 hnm hret hlk hZ0 e0
  have N0 := Fr.nil Z.heap.size
  refine castGo (g' := mkF m 0 #[.val (.ref aE), .unset] []) (by first | rfl | (simp [entryFrame, mkF, argsToLocals, Value.category]; done)) ?_
  show Go _ _ _ _ (T0.setTop (mkF m 0 #[.val (.ref aE), .unset] []))
  refine aL X0 hx (hb hby d_jdk_56m3_0) (q := 1) rfl rfl rfl ?_
  rcases insEither hZ0 hown0 (wd57 hw) PE1 with hi42 | hi42
  · refine g_insY X0 hx hZ0 hown0 (wd57 hw) hi42 e0 (hb hby d_jdk_56m3_1) (q := 4) rfl ?_
    intro T42 X42 e42
    refine ifY X42 hx (hb hby d_jdk_56m3_4) (q := 26) (by decide) (by decide) (by decide) ?_
    refine aL X42 hx (hb hby d_jdk_56m3_26) (q := 27) rfl rfl rfl ?_
    refine g_cast X42 hx hZ0 hown0 (wd67 hw) (Ins.of_exa PE1 (wd68 hw)) e42 (hb hby d_jdk_56m3_27) (q := 30) rfl ?_
    intro T43 X43 e43
    refine endP X43 hlk (fun h => by rw [hret] at h; cases h) (lastA X43 hx hret rfl rfl rfl (hb hby d_jdk_56m3_30)) ?_ (by decide) (by decide)
    rw [e43]
    exact ⟨rfl, N0, rfl⟩
  · refine g_insN X0 hx hZ0 hown0 (wd57 hw) PE1 hi42 e0 (hb hby d_jdk_56m3_1) (q := 4) rfl ?_
    intro T42 X42 e42
    refine ifN X42 hx (hb hby d_jdk_56m3_4) (q := 7) rfl (by decide) ?_
    refine aL X42 hx (hb hby d_jdk_56m3_7) (q := 8) rfl rfl rfl ?_
    refine g_insY X42 hx hZ0 hown0 (wd63 hw) (Ins.self PE1) e42 (hb hby d_jdk_56m3_8) (q := 11) rfl ?_
    intro T44 X44 e44
    refine ifN X44 hx (hb hby d_jdk_56m3_11) (q := 14) rfl (by decide) ?_
    refine aL X44 hx (hb hby d_jdk_56m3_14) (q := 15) rfl rfl rfl ?_
    refine g_cast X44 hx hZ0 hown0 (wd63 hw) (Ins.self PE1) e44 (hb hby d_jdk_56m3_15) (q := 18) rfl ?_
    intro T45 X45 e45
    refine sA X45 hx (hb hby d_jdk_56m3_18) (q := 19) rfl rfl (Ls' := #[.val (.ref aE), .val (.ref aE)]) rfl ?_
    refine aL X45 hx (hb hby d_jdk_56m3_19) (q := 20) rfl rfl rfl ?_
    refine g_getF X45 hx hZ0 hown0 (Or.inr (wd65 hw)) Via.refl PE4 e45 (hb hby d_jdk_56m3_20) (q := 23) rfl ?_
    intro T46 X46 e46
    refine ifN X46 hx (hb hby d_jdk_56m3_23) (q := 26) rfl (by decide) ?_
    refine aL X46 hx (hb hby d_jdk_56m3_26) (q := 27) rfl rfl rfl ?_
    refine g_cast X46 hx hZ0 hown0 (wd67 hw) (Ins.of_exa PE1 (wd68 hw)) e46 (hb hby d_jdk_56m3_27) (q := 30) rfl ?_
    intro T47 X47 e47
    refine endP X47 hlk (fun h => by rw [hret] at h; cases h) (lastA X47 hx hret rfl rfl rfl (hb hby d_jdk_56m3_30)) ?_ (by decide) (by decide)
    rw [e47]
    exact ⟨rfl, N0, rfl⟩
theorem d_jdk_40m48_0 : decode jdk_40_method_48_code 0 = .ok (.aload_n 0, 1) := by decide +kernel
theorem d_jdk_40m48_1 : decode jdk_40_method_48_code 1 = .ok (.invokestatic 112, 3) := by decide +kernel
theorem wd56 {a0 : Array Value} {Z : State} (hw : ∀ d ∈ tables_1, d.before a0 Z = true) : ((Jvm.Cond.code ({ cls := "java/util/ImmutableCollections", name := "listCopy", desc := "(Ljava/util/Collection;)Ljava/util/List;" } : Jvm.MethodName) jdk_56_method_3_code (2 : Nat) (Option.some (Jvm.ClassFile.FieldType.object "java/util/List"))) : Jvm.Cond).before a0 Z = true := hw _ (List.mem_of_getElem? (i := 56) rfl)
theorem wd41 {a0 : Array Value} {Z : State} (hw : ∀ d ∈ tables_1, d.before a0 Z = true) : ((Jvm.Cond.initialized "java/util/ImmutableCollections") : Jvm.Cond).before a0 Z = true := hw _ (List.mem_of_getElem? (i := 41) rfl)
theorem pd1 : parseMethodDescriptor "(Ljava/util/Collection;)Ljava/util/List;" = some ⟨[(.object "java/util/Collection")], some (.object "java/util/List")⟩ := by decide +kernel
theorem wd54 {a0 : Array Value} {Z : State} (hw : ∀ d ∈ tables_1, d.before a0 Z = true) : ((Jvm.Cond.methodLink "java/util/List" (112 : Nat) ({ cls := "java/util/ImmutableCollections", name := "listCopy", desc := "(Ljava/util/Collection;)Ljava/util/List;" } : Jvm.MethodName)) : Jvm.Cond).before a0 Z = true := hw _ (List.mem_of_getElem? (i := 54) rfl)
theorem wd55 {a0 : Array Value} {Z : State} (hw : ∀ d ∈ tables_1, d.before a0 Z = true) : ((Jvm.Cond.static ({ cls := "java/util/ImmutableCollections", name := "listCopy", desc := "(Ljava/util/Collection;)Ljava/util/List;" } : Jvm.MethodName)) : Jvm.Cond).before a0 Z = true := hw _ (List.mem_of_getElem? (i := 55) rfl)
theorem d_jdk_40m48_4 : decode jdk_40_method_48_code 4 = .ok (.areturn, 1) := by decide +kernel
def Q_copyof (Z : State) (zC : Int32) (aE : Addr) (eA : Addr) (eK : ClassId) (eL : List Value) (h0 : Heap) (v : Option Value) (h : Heap) (L : List Loc) : Prop := v = some (.ref aE) ∧ Fr Z.heap.size L ∧ h = h0
set_option maxRecDepth 65536 in
set_option maxHeartbeats 40000000 in
theorem rm_copyof (l : Launch) (Z : State) (a0 : Array Value) (hw : ∀ d ∈ tables_1, d.before a0 Z = true) (zC : Int32) (SC : Sta Z Z.heap "java/lang/String" "COMPACT_STRINGS" "Z" (.int zC)) (PC : ¬ zC = (0 : Int32)) (aE : Addr) (SE : Sta Z Z.heap "java/util/ImmutableCollections" "EMPTY_LIST" "Ljava/util/ImmutableCollections$ListN;" (.ref aE)) (eA : Addr) (eK : ClassId) (eL : List Value) (h0 : Heap) (O0 : Old Z Z.heap.size h0) (PE1 : Exa Z h0 aE "java/util/ImmutableCollections$ListN") (PE2 : Fld Z h0 aE "java/util/ImmutableCollections$ListN" "elements" "[Ljava/lang/Object;" (.ref eA)) (PE3 : Arv Z h0 eA eK (.object "java/lang/Object") (0 : Int32) eL .null) (PE4 : Fld Z h0 aE "java/util/ImmutableCollections$ListN" "allowNulls" "Z" (.int (0 : Int32))) :
    Con l Z (⟨"java/util/List", "copyOf", "(Ljava/util/Collection;)Ljava/util/List;"⟩ : MethodName) jdk_40_method_48_code 1 (some (.object "java/util/List")) ({ frames := 1, cells := 0, slots := 0, locals := 13 } : Room) #[(.ref aE)] h0 (Q_copyof Z zC aE eA eK eL h0) := by
  refine Con.intro pn1 ?_
  intro p e s m below meth c T0 X0 hx hby hml hown0 hnm hret hlk hZ0 e0
  have N0 := Fr.nil Z.heap.size
  refine castGo (g' := mkF m 0 #[.val (.ref aE)] []) (by first | rfl | (simp [entryFrame, mkF, argsToLocals, Value.category]; done)) ?_
  show Go _ _ _ _ (T0.setTop (mkF m 0 #[.val (.ref aE)] []))
  refine aL X0 hx (hb hby d_jdk_40m48_0) (q := 1) rfl rfl rfl ?_
  refine g_st X0 hx hZ0 hown0 (wd54 hw) (wd55 hw) (wd41 hw) (wd56 hw) (by decide) e0 (Con.back (W := 0) (rm_listcopy l Z a0 hw zC SC PC aE SE eA eK eL h0 O0 PE1 PE2 PE3 PE4) hZ0 (wd56 hw) (wd41 hw) (by decide) (by decide)) (by rw [hml]; rfl) (lenOf pd1 rfl) rfl (Nat.le_of_eq rfl) (hb hby d_jdk_40m48_1) (q := 4) rfl (by decide) (by decide) ?_
  intro v48 T48 L48 X48 Q48
  obtain ⟨rfl, Nq48, e48⟩ := Q48
  have N48 := Fr.app N0 Nq48
  show Go _ _ _ _ (T48.setTop (mkF m 4 #[.val (.ref aE)] [(.ref aE)]))
  refine endP X48 hlk (fun h => by rw [hret] at h; cases h) (lastA X48 hx hret rfl rfl rfl (hb hby d_jdk_40m48_4)) ?_ (by decide) (by decide)
  rw [e48]
  exact ⟨rfl, N48, rfl⟩
theorem d_prog_23m1_0 : decode prog_23_method_1_code 0 = .ok (.aload_n 0, 1) := by decide +kernel
theorem d_prog_23m1_1 : decode prog_23_method_1_code 1 = .ok (.invokespecial 1, 3) := by decide +kernel
theorem wd49 {a0 : Array Value} {Z : State} (hw : ∀ d ∈ tables_1, d.before a0 Z = true) : ((Jvm.Cond.code ({ cls := "java/lang/Record", name := "<init>", desc := "()V" } : Jvm.MethodName) jdk_30_method_1_code (1 : Nat) (Option.none : Option Jvm.ClassFile.FieldType)) : Jvm.Cond).before a0 Z = true := hw _ (List.mem_of_getElem? (i := 49) rfl)
theorem wd48 {a0 : Array Value} {Z : State} (hw : ∀ d ∈ tables_1, d.before a0 Z = true) : ((Jvm.Cond.initialized "java/lang/Record") : Jvm.Cond).before a0 Z = true := hw _ (List.mem_of_getElem? (i := 48) rfl)
theorem pd2 : parseMethodDescriptor "()V" = some ⟨[], none⟩ := by decide +kernel
theorem wd45 {a0 : Array Value} {Z : State} (hw : ∀ d ∈ tables_1, d.before a0 Z = true) : ((Jvm.Cond.methodLink "com/example/quaymark/quaymark/Review" (1 : Nat) ({ cls := "java/lang/Record", name := "<init>", desc := "()V" } : Jvm.MethodName)) : Jvm.Cond).before a0 Z = true := hw _ (List.mem_of_getElem? (i := 45) rfl)
theorem wd46 {a0 : Array Value} {Z : State} (hw : ∀ d ∈ tables_1, d.before a0 Z = true) : ((Jvm.Cond.instanceMethod ({ cls := "java/lang/Record", name := "<init>", desc := "()V" } : Jvm.MethodName)) : Jvm.Cond).before a0 Z = true := hw _ (List.mem_of_getElem? (i := 46) rfl)
theorem d_prog_23m1_4 : decode prog_23_method_1_code 4 = .ok (.aload_n 2, 1) := by decide +kernel
theorem d_prog_23m1_5 : decode prog_23_method_1_code 5 = .ok (.invokestatic 7, 3) := by decide +kernel
theorem wd53 {a0 : Array Value} {Z : State} (hw : ∀ d ∈ tables_1, d.before a0 Z = true) : ((Jvm.Cond.code ({ cls := "java/util/List", name := "copyOf", desc := "(Ljava/util/Collection;)Ljava/util/List;" } : Jvm.MethodName) jdk_40_method_48_code (1 : Nat) (Option.some (Jvm.ClassFile.FieldType.object "java/util/List"))) : Jvm.Cond).before a0 Z = true := hw _ (List.mem_of_getElem? (i := 53) rfl)
theorem wd38 {a0 : Array Value} {Z : State} (hw : ∀ d ∈ tables_1, d.before a0 Z = true) : ((Jvm.Cond.initialized "java/util/List") : Jvm.Cond).before a0 Z = true := hw _ (List.mem_of_getElem? (i := 38) rfl)
theorem wd51 {a0 : Array Value} {Z : State} (hw : ∀ d ∈ tables_1, d.before a0 Z = true) : ((Jvm.Cond.methodLink "com/example/quaymark/quaymark/Review" (7 : Nat) ({ cls := "java/util/List", name := "copyOf", desc := "(Ljava/util/Collection;)Ljava/util/List;" } : Jvm.MethodName)) : Jvm.Cond).before a0 Z = true := hw _ (List.mem_of_getElem? (i := 51) rfl)
theorem wd52 {a0 : Array Value} {Z : State} (hw : ∀ d ∈ tables_1, d.before a0 Z = true) : ((Jvm.Cond.static ({ cls := "java/util/List", name := "copyOf", desc := "(Ljava/util/Collection;)Ljava/util/List;" } : Jvm.MethodName)) : Jvm.Cond).before a0 Z = true := hw _ (List.mem_of_getElem? (i := 52) rfl)
theorem d_prog_23m1_8 : decode prog_23_method_1_code 8 = .ok (.astore_n 2, 1) := by decide +kernel
theorem d_prog_23m1_9 : decode prog_23_method_1_code 9 = .ok (.aload_n 0, 1) := by decide +kernel
theorem d_prog_23m1_10 : decode prog_23_method_1_code 10 = .ok (.aload_n 1, 1) := by decide +kernel
theorem d_prog_23m1_11 : decode prog_23_method_1_code 11 = .ok (.putfield 13, 3) := by decide +kernel
theorem wd69 {a0 : Array Value} {Z : State} (hw : ∀ d ∈ tables_1, d.before a0 Z = true) : ((Jvm.Cond.fieldLink "com/example/quaymark/quaymark/Review" (13 : Nat) "com/example/quaymark/quaymark/Review" "submittedBy" "Ljava/lang/String;") : Jvm.Cond).before a0 Z = true := hw _ (List.mem_of_getElem? (i := 69) rfl)
theorem wd70 {a0 : Array Value} {Z : State} (hw : ∀ d ∈ tables_1, d.before a0 Z = true) : ((Jvm.Cond.laysFinal "com/example/quaymark/quaymark/Review" "com/example/quaymark/quaymark/Review" "submittedBy" "Ljava/lang/String;") : Jvm.Cond).before a0 Z = true := hw _ (List.mem_of_getElem? (i := 70) rfl)
theorem wd35 {a0 : Array Value} {Z : State} (hw : ∀ d ∈ tables_1, d.before a0 Z = true) : ((Jvm.Cond.instantiable "com/example/quaymark/quaymark/Review" (4 : Nat)) : Jvm.Cond).before a0 Z = true := hw _ (List.mem_of_getElem? (i := 35) rfl)
theorem d_prog_23m1_14 : decode prog_23_method_1_code 14 = .ok (.aload_n 0, 1) := by decide +kernel
theorem d_prog_23m1_15 : decode prog_23_method_1_code 15 = .ok (.aload_n 2, 1) := by decide +kernel
theorem d_prog_23m1_16 : decode prog_23_method_1_code 16 = .ok (.putfield 19, 3) := by decide +kernel
theorem wd71 {a0 : Array Value} {Z : State} (hw : ∀ d ∈ tables_1, d.before a0 Z = true) : ((Jvm.Cond.fieldLink "com/example/quaymark/quaymark/Review" (19 : Nat) "com/example/quaymark/quaymark/Review" "leftOut" "Ljava/util/List;") : Jvm.Cond).before a0 Z = true := hw _ (List.mem_of_getElem? (i := 71) rfl)
theorem wd72 {a0 : Array Value} {Z : State} (hw : ∀ d ∈ tables_1, d.before a0 Z = true) : ((Jvm.Cond.laysFinal "com/example/quaymark/quaymark/Review" "com/example/quaymark/quaymark/Review" "leftOut" "Ljava/util/List;") : Jvm.Cond).before a0 Z = true := hw _ (List.mem_of_getElem? (i := 72) rfl)
theorem d_prog_23m1_19 : decode prog_23_method_1_code 19 = .ok (.aload_n 0, 1) := by decide +kernel
theorem d_prog_23m1_20 : decode prog_23_method_1_code 20 = .ok (.aload_n 3, 1) := by decide +kernel
theorem d_prog_23m1_21 : decode prog_23_method_1_code 21 = .ok (.putfield 23, 3) := by decide +kernel
theorem wd73 {a0 : Array Value} {Z : State} (hw : ∀ d ∈ tables_1, d.before a0 Z = true) : ((Jvm.Cond.fieldLink "com/example/quaymark/quaymark/Review" (23 : Nat) "com/example/quaymark/quaymark/Review" "signedOffBy" "Ljava/lang/String;") : Jvm.Cond).before a0 Z = true := hw _ (List.mem_of_getElem? (i := 73) rfl)
theorem wd74 {a0 : Array Value} {Z : State} (hw : ∀ d ∈ tables_1, d.before a0 Z = true) : ((Jvm.Cond.laysFinal "com/example/quaymark/quaymark/Review" "com/example/quaymark/quaymark/Review" "signedOffBy" "Ljava/lang/String;") : Jvm.Cond).before a0 Z = true := hw _ (List.mem_of_getElem? (i := 74) rfl)
theorem d_prog_23m1_24 : decode prog_23_method_1_code 24 = .ok (.aload_n 0, 1) := by decide +kernel
theorem d_prog_23m1_25 : decode prog_23_method_1_code 25 = .ok (.aload 4, 2) := by decide +kernel
theorem d_prog_23m1_27 : decode prog_23_method_1_code 27 = .ok (.putfield 26, 3) := by decide +kernel
theorem wd75 {a0 : Array Value} {Z : State} (hw : ∀ d ∈ tables_1, d.before a0 Z = true) : ((Jvm.Cond.fieldLink "com/example/quaymark/quaymark/Review" (26 : Nat) "com/example/quaymark/quaymark/Review" "withdrawn" "Lcom/example/quaymark/quaymark/Review$Withdrawal;") : Jvm.Cond).before a0 Z = true := hw _ (List.mem_of_getElem? (i := 75) rfl)
theorem wd76 {a0 : Array Value} {Z : State} (hw : ∀ d ∈ tables_1, d.before a0 Z = true) : ((Jvm.Cond.laysFinal "com/example/quaymark/quaymark/Review" "com/example/quaymark/quaymark/Review" "withdrawn" "Lcom/example/quaymark/quaymark/Review$Withdrawal;") : Jvm.Cond).before a0 Z = true := hw _ (List.mem_of_getElem? (i := 76) rfl)
theorem d_prog_23m1_30 : decode prog_23_method_1_code 30 = .ok (.return_, 1) := by decide +kernel
def Q_rvinit (Z : State) (zC : Int32) (aE : Addr) (a1 : Addr) (a2 : Addr) (eA : Addr) (eK : ClassId) (eL : List Value) (h0 : Heap) (v : Option Value) (h : Heap) (L : List Loc) : Prop := v = none ∧ Fr Z.heap.size L ∧ Keep h0 h [a1] ∧ Exa Z h a1 "com/example/quaymark/quaymark/Review" ∧ Fld Z h a1 "com/example/quaymark/quaymark/Review" "submittedBy" "Ljava/lang/String;" (.ref a2) ∧ Fld Z h a1 "com/example/quaymark/quaymark/Review" "leftOut" "Ljava/util/List;" (.ref aE) ∧ Fld Z h a1 "com/example/quaymark/quaymark/Review" "signedOffBy" "Ljava/lang/String;" .null ∧ Fld Z h a1 "com/example/quaymark/quaymark/Review" "withdrawn" "Lcom/example/quaymark/quaymark/Review$Withdrawal;" .null
theorem pn4 : plainName "com/example/quaymark/quaymark/Review" = true := by first | (simp [plainName, overriddenIn]; done) | decide +kernel
set_option maxRecDepth 65536 in
set_option maxHeartbeats 40000000 in
theorem rm_rvinit (l : Launch) (Z : State) (a0 : Array Value) (hw : ∀ d ∈ tables_1, d.before a0 Z = true) (zC : Int32) (SC : Sta Z Z.heap "java/lang/String" "COMPACT_STRINGS" "Z" (.int zC)) (PC : ¬ zC = (0 : Int32)) (aE : Addr) (SE : Sta Z Z.heap "java/util/ImmutableCollections" "EMPTY_LIST" "Ljava/util/ImmutableCollections$ListN;" (.ref aE)) (a1 : Addr) (a2 : Addr) (eA : Addr) (eK : ClassId) (eL : List Value) (h0 : Heap) (O0 : Old Z Z.heap.size h0) (PE1 : Exa Z h0 aE "java/util/ImmutableCollections$ListN") (PE2 : Fld Z h0 aE "java/util/ImmutableCollections$ListN" "elements" "[Ljava/lang/Object;" (.ref eA)) (PE3 : Arv Z h0 eA eK (.object "java/lang/Object") (0 : Int32) eL .null) (PE4 : Fld Z h0 aE "java/util/ImmutableCollections$ListN" "allowNulls" "Z" (.int (0 : Int32))) (P1 : Exa Z h0 a1 "com/example/quaymark/quaymark/Review") (P2 : Fld Z h0 a1 "com/example/quaymark/quaymark/Review" "submittedBy" "Ljava/lang/String;" .null) (P3 : Fld Z h0 a1 "com/example/quaymark/quaymark/Review" "leftOut" "Ljava/util/List;" .null) (P4 : Fld Z h0 a1 "com/example/quaymark/quaymark/Review" "signedOffBy" "Ljava/lang/String;" .null) (P5 : Fld Z h0 a1 "com/example/quaymark/quaymark/Review" "withdrawn" "Lcom/example/quaymark/quaymark/Review$Withdrawal;" .null) (P6 : Z.heap.size ≤ a1) :
    Con l Z (⟨"com/example/quaymark/quaymark/Review", "<init>", "(Ljava/lang/String;Ljava/util/List;Ljava/lang/String;Lcom/example/quaymark/quaymark/Review$Withdrawal;)V"⟩ : MethodName) prog_23_method_1_code 5 none ({ frames := 2, cells := 0, slots := 0, locals := 25 } : Room) #[(.ref a1), (.ref a2), (.ref aE), .null, .null] h0 (Q_rvinit Z zC aE a1 a2 eA eK eL h0) := by
  refine Con.intro pn4 ?_
  intro p e s m below meth c T0 X0 hx hby hml hown0 hnm hret hlk hZ0 e0
  have N0 := Fr.nil Z.heap.size
  refine castGo (g' := mkF m 0 #[.val (.ref a1), .val (.ref a2), .val (.ref aE), .val .null, .val .null] []) (by first | rfl | (simp [entryFrame, mkF, argsToLocals, Value.category]; done)) ?_
  show Go _ _ _ _ (T0.setTop (mkF m 0 #[.val (.ref a1), .val (.ref a2), .val (.ref aE), .val .null, .val .null] []))
  refine aL X0 hx (hb hby d_prog_23m1_0) (q := 1) rfl rfl rfl ?_
  refine g_sp X0 hx hZ0 hown0 (wd45 hw) (wd46 hw) (wd49 hw) rfl (by decide) e0 (Con.back (W := 0) (rm_recinit l Z a0 hw zC SC PC aE SE a1 h0 O0 ) hZ0 (wd49 hw) (wd48 hw) (by decide) (by decide)) (by rw [hml]; rfl) (lenOf pd2 rfl) rfl (Nat.le_of_eq rfl) (hb hby d_prog_23m1_1) (q := 4) rfl (by decide) (by decide) ?_
  intro v49 T49 L49 X49 Q49
  obtain ⟨rfl, Nq49, e49⟩ := Q49
  have N49 := Fr.app N0 Nq49
  show Go _ _ _ _ (T49.setTop (mkF m 4 #[.val (.ref a1), .val (.ref a2), .val (.ref aE), .val .null, .val .null] []))
  refine aL X49 hx (hb hby d_prog_23m1_4) (q := 5) rfl rfl rfl ?_
  refine g_st X49 hx hZ0 hown0 (wd51 hw) (wd52 hw) (wd38 hw) (wd53 hw) (by decide) e49 (Con.back (W := 0) (rm_copyof l Z a0 hw zC SC PC aE SE eA eK eL h0 O0 PE1 PE2 PE3 PE4) hZ0 (wd53 hw) (wd38 hw) (by decide) (by decide)) (by rw [hml]; rfl) (lenOf pd1 rfl) rfl (Nat.le_of_eq rfl) (hb hby d_prog_23m1_5) (q := 8) rfl (by decide) (by decide) ?_
  intro v50 T50 L50 X50 Q50
  obtain ⟨rfl, Nq50, e50⟩ := Q50
  have N50 := Fr.app N49 Nq50
  show Go _ _ _ _ (T50.setTop (mkF m 8 #[.val (.ref a1), .val (.ref a2), .val (.ref aE), .val .null, .val .null] [(.ref aE)]))
  refine sA X50 hx (hb hby d_prog_23m1_8) (q := 9) rfl rfl (Ls' := #[.val (.ref a1), .val (.ref a2), .val (.ref aE), .val .null, .val .null]) rfl ?_
  refine aL X50 hx (hb hby d_prog_23m1_9) (q := 10) rfl rfl rfl ?_
  refine aL X50 hx (hb hby d_prog_23m1_10) (q := 11) rfl rfl rfl ?_
  refine g_putF X50 hx hZ0 hown0 (host := "") (Or.inl (wd69 hw)) Via.refl P2 P1 (Or.inr ⟨(wd70 hw), rfl, hnm⟩) (wd35 hw) (ty := (.object "java/lang/String")) (by decide) rfl rfl e50 (hb hby d_prog_23m1_11) (q := 14) rfl ?_
  intro T51 h51 X51 e51 W51
  have N51 := Fr.snoc X51 N50 P6
  have Fw51 : Fld Z h51 a1 "com/example/quaymark/quaymark/Review" "submittedBy" "Ljava/lang/String;" (.ref a2) := P2.same W51
  refine aL X51 hx (hb hby d_prog_23m1_14) (q := 15) rfl rfl rfl ?_
  refine aL X51 hx (hb hby d_prog_23m1_15) (q := 16) rfl rfl rfl ?_
  have f52 : Fld Z h51 a1 "com/example/quaymark/quaymark/Review" "leftOut" "Ljava/util/List;" .null := P3.other W51 (Or.inr (slot_ne (Or.inr (wd72 hw)) (Or.inr (wd70 hw)) (by decide) (t := (.object "java/util/List")) (t' := (.object "java/lang/String")) (by decide) (by decide)))
  have f53 : Exa Z h51 a1 "com/example/quaymark/quaymark/Review" := P1.wr W51
  refine g_putF X51 hx hZ0 hown0 (host := "") (Or.inl (wd71 hw)) Via.refl f52 f53 (Or.inr ⟨(wd72 hw), rfl, hnm⟩) (wd35 hw) (ty := (.object "java/util/List")) (by decide) rfl rfl e51 (hb hby d_prog_23m1_16) (q := 19) rfl ?_
  intro T54 h54 X54 e54 W54
  have N54 := Fr.snoc X54 N51 P6
  have Fw54 : Fld Z h54 a1 "com/example/quaymark/quaymark/Review" "leftOut" "Ljava/util/List;" (.ref aE) := f52.same W54
  refine aL X54 hx (hb hby d_prog_23m1_19) (q := 20) rfl rfl rfl ?_
  refine aL X54 hx (hb hby d_prog_23m1_20) (q := 21) rfl rfl rfl ?_
  have f55 : Fld Z h51 a1 "com/example/quaymark/quaymark/Review" "signedOffBy" "Ljava/lang/String;" .null := P4.other W51 (Or.inr (slot_ne (Or.inr (wd74 hw)) (Or.inr (wd70 hw)) (by decide) (t := (.object "java/lang/String")) (t' := (.object "java/lang/String")) (by decide) (by decide)))
  have f56 : Fld Z h54 a1 "com/example/quaymark/quaymark/Review" "signedOffBy" "Ljava/lang/String;" .null := f55.other W54 (Or.inr (slot_ne (Or.inr (wd74 hw)) (Or.inr (wd72 hw)) (by decide) (t := (.object "java/lang/String")) (t' := (.object "java/util/List")) (by decide) (by decide)))
  have f57 : Exa Z h54 a1 "com/example/quaymark/quaymark/Review" := f53.wr W54
  refine g_putF X54 hx hZ0 hown0 (host := "") (Or.inl (wd73 hw)) Via.refl f56 f57 (Or.inr ⟨(wd74 hw), rfl, hnm⟩) (wd35 hw) (ty := (.object "java/lang/String")) (by decide) rfl rfl e54 (hb hby d_prog_23m1_21) (q := 24) rfl ?_
  intro T58 h58 X58 e58 W58
  have N58 := Fr.snoc X58 N54 P6
  have Fw58 : Fld Z h58 a1 "com/example/quaymark/quaymark/Review" "signedOffBy" "Ljava/lang/String;" .null := f56.same W58
  refine aL X58 hx (hb hby d_prog_23m1_24) (q := 25) rfl rfl rfl ?_
  refine aLw X58 hx (hb hby d_prog_23m1_25) (q := 27) rfl rfl rfl ?_
  have f59 : Fld Z h51 a1 "com/example/quaymark/quaymark/Review" "withdrawn" "Lcom/example/quaymark/quaymark/Review$Withdrawal;" .null := P5.other W51 (Or.inr (slot_ne (Or.inr (wd76 hw)) (Or.inr (wd70 hw)) (by decide) (t := (.object "com/example/quaymark/quaymark/Review$Withdrawal")) (t' := (.object "java/lang/String")) (by decide) (by decide)))
  have f60 : Fld Z h54 a1 "com/example/quaymark/quaymark/Review" "withdrawn" "Lcom/example/quaymark/quaymark/Review$Withdrawal;" .null := f59.other W54 (Or.inr (slot_ne (Or.inr (wd76 hw)) (Or.inr (wd72 hw)) (by decide) (t := (.object "com/example/quaymark/quaymark/Review$Withdrawal")) (t' := (.object "java/util/List")) (by decide) (by decide)))
  have f61 : Fld Z h58 a1 "com/example/quaymark/quaymark/Review" "withdrawn" "Lcom/example/quaymark/quaymark/Review$Withdrawal;" .null := f60.other W58 (Or.inr (slot_ne (Or.inr (wd76 hw)) (Or.inr (wd74 hw)) (by decide) (t := (.object "com/example/quaymark/quaymark/Review$Withdrawal")) (t' := (.object "java/lang/String")) (by decide) (by decide)))
  have f62 : Exa Z h58 a1 "com/example/quaymark/quaymark/Review" := f57.wr W58
  refine g_putF X58 hx hZ0 hown0 (host := "") (Or.inl (wd75 hw)) Via.refl f61 f62 (Or.inr ⟨(wd76 hw), rfl, hnm⟩) (wd35 hw) (ty := (.object "com/example/quaymark/quaymark/Review$Withdrawal")) (by decide) rfl rfl e58 (hb hby d_prog_23m1_27) (q := 30) rfl ?_
  intro T63 h63 X63 e63 W63
  have N63 := Fr.snoc X63 N58 P6
  have Fw63 : Fld Z h63 a1 "com/example/quaymark/quaymark/Review" "withdrawn" "Lcom/example/quaymark/quaymark/Review$Withdrawal;" .null := f61.same W63
  have K64 : Keep h0 h51 [a1] := (Keep.refl h0 [a1]).wr W51 (Or.inl (by simp))
  have K65 : Keep h0 h54 [a1] := K64.wr W54 (Or.inl (by simp))
  have K66 : Keep h0 h58 [a1] := K65.wr W58 (Or.inl (by simp))
  have K67 : Keep h0 h63 [a1] := K66.wr W63 (Or.inl (by simp))
  have f68 : Exa Z h63 a1 "com/example/quaymark/quaymark/Review" := f62.wr W63
  have f69 : Fld Z h54 a1 "com/example/quaymark/quaymark/Review" "submittedBy" "Ljava/lang/String;" (.ref a2) := Fw51.other W54 (Or.inr (slot_ne (Or.inr (wd70 hw)) (Or.inr (wd72 hw)) (by decide) (t := (.object "java/lang/String")) (t' := (.object "java/util/List")) (by decide) (by decide)))
  have f70 : Fld Z h58 a1 "com/example/quaymark/quaymark/Review" "submittedBy" "Ljava/lang/String;" (.ref a2) := f69.other W58 (Or.inr (slot_ne (Or.inr (wd70 hw)) (Or.inr (wd74 hw)) (by decide) (t := (.object "java/lang/String")) (t' := (.object "java/lang/String")) (by decide) (by decide)))
  have f71 : Fld Z h63 a1 "com/example/quaymark/quaymark/Review" "submittedBy" "Ljava/lang/String;" (.ref a2) := f70.other W63 (Or.inr (slot_ne (Or.inr (wd70 hw)) (Or.inr (wd76 hw)) (by decide) (t := (.object "java/lang/String")) (t' := (.object "com/example/quaymark/quaymark/Review$Withdrawal")) (by decide) (by decide)))
  have f72 : Fld Z h58 a1 "com/example/quaymark/quaymark/Review" "leftOut" "Ljava/util/List;" (.ref aE) := Fw54.other W58 (Or.inr (slot_ne (Or.inr (wd72 hw)) (Or.inr (wd74 hw)) (by decide) (t := (.object "java/util/List")) (t' := (.object "java/lang/String")) (by decide) (by decide)))
  have f73 : Fld Z h63 a1 "com/example/quaymark/quaymark/Review" "leftOut" "Ljava/util/List;" (.ref aE) := f72.other W63 (Or.inr (slot_ne (Or.inr (wd72 hw)) (Or.inr (wd76 hw)) (by decide) (t := (.object "java/util/List")) (t' := (.object "com/example/quaymark/quaymark/Review$Withdrawal")) (by decide) (by decide)))
  have f74 : Fld Z h63 a1 "com/example/quaymark/quaymark/Review" "signedOffBy" "Ljava/lang/String;" .null := Fw58.other W63 (Or.inr (slot_ne (Or.inr (wd74 hw)) (Or.inr (wd76 hw)) (by decide) (t := (.object "java/lang/String")) (t' := (.object "com/example/quaymark/quaymark/Review$Withdrawal")) (by decide) (by decide)))
  refine endP X63 hlk (fun _ => rfl) (lastV X63 hx hret (hb hby d_prog_23m1_30)) ?_ (by decide) (by decide)
  rw [e63]
  exact ⟨rfl, N63, K67, f68, f71, f73, f74, Fw63⟩
theorem d_prog_23m2_0 : decode prog_23_method_2_code 0 = .ok (.new 14, 3) := by decide +kernel
theorem wd34 {a0 : Array Value} {Z : State} (hw : ∀ d ∈ tables_1, d.before a0 Z = true) : ((Jvm.Cond.classLink "com/example/quaymark/quaymark/Review" (14 : Nat) "com/example/quaymark/quaymark/Review") : Jvm.Cond).before a0 Z = true := hw _ (List.mem_of_getElem? (i := 34) rfl)
theorem wd32 {a0 : Array Value} {Z : State} (hw : ∀ d ∈ tables_1, d.before a0 Z = true) : ((Jvm.Cond.initialized "com/example/quaymark/quaymark/Review") : Jvm.Cond).before a0 Z = true := hw _ (List.mem_of_getElem? (i := 32) rfl)
theorem d_prog_23m2_3 : decode prog_23_method_2_code 3 = .ok (.dup, 1) := by decide +kernel
theorem d_prog_23m2_4 : decode prog_23_method_2_code 4 = .ok (.aload_n 0, 1) := by decide +kernel
theorem d_prog_23m2_5 : decode prog_23_method_2_code 5 = .ok (.invokestatic 30, 3) := by decide +kernel
theorem wd39 {a0 : Array Value} {Z : State} (hw : ∀ d ∈ tables_1, d.before a0 Z = true) : ((Jvm.Cond.code ({ cls := "java/util/List", name := "of", desc := "()Ljava/util/List;" } : Jvm.MethodName) jdk_40_method_36_code (0 : Nat) (Option.some (Jvm.ClassFile.FieldType.object "java/util/List"))) : Jvm.Cond).before a0 Z = true := hw _ (List.mem_of_getElem? (i := 39) rfl)
theorem pd3 : parseMethodDescriptor "()Ljava/util/List;" = some ⟨[], some (.object "java/util/List")⟩ := by decide +kernel
theorem wd36 {a0 : Array Value} {Z : State} (hw : ∀ d ∈ tables_1, d.before a0 Z = true) : ((Jvm.Cond.methodLink "com/example/quaymark/quaymark/Review" (30 : Nat) ({ cls := "java/util/List", name := "of", desc := "()Ljava/util/List;" } : Jvm.MethodName)) : Jvm.Cond).before a0 Z = true := hw _ (List.mem_of_getElem? (i := 36) rfl)
theorem wd37 {a0 : Array Value} {Z : State} (hw : ∀ d ∈ tables_1, d.before a0 Z = true) : ((Jvm.Cond.static ({ cls := "java/util/List", name := "of", desc := "()Ljava/util/List;" } : Jvm.MethodName)) : Jvm.Cond).before a0 Z = true := hw _ (List.mem_of_getElem? (i := 37) rfl)
theorem d_prog_23m2_8 : decode prog_23_method_2_code 8 = .ok (.aconst_null, 1) := by decide +kernel
theorem d_prog_23m2_9 : decode prog_23_method_2_code 9 = .ok (.aconst_null, 1) := by decide +kernel
theorem d_prog_23m2_10 : decode prog_23_method_2_code 10 = .ok (.invokespecial 34, 3) := by decide +kernel
theorem wd44 {a0 : Array Value} {Z : State} (hw : ∀ d ∈ tables_1, d.before a0 Z = true) : ((Jvm.Cond.code ({ cls := "com/example/quaymark/quaymark/Review", name := "<init>", desc := "(Ljava/lang/String;Ljava/util/List;Ljava/lang/String;Lcom/example/quaymark/quaymark/Review$Withdrawal;)V" } : Jvm.MethodName) prog_23_method_1_code (5 : Nat) (Option.none : Option Jvm.ClassFile.FieldType)) : Jvm.Cond).before a0 Z = true := hw _ (List.mem_of_getElem? (i := 44) rfl)
theorem pd4 : parseMethodDescriptor "(Ljava/lang/String;Ljava/util/List;Ljava/lang/String;Lcom/example/quaymark/quaymark/Review$Withdrawal;)V" = some ⟨[(.object "java/lang/String"), (.object "java/util/List"), (.object "java/lang/String"), (.object "com/example/quaymark/quaymark/Review$Withdrawal")], none⟩ := by decide +kernel
theorem wd42 {a0 : Array Value} {Z : State} (hw : ∀ d ∈ tables_1, d.before a0 Z = true) : ((Jvm.Cond.methodLink "com/example/quaymark/quaymark/Review" (34 : Nat) ({ cls := "com/example/quaymark/quaymark/Review", name := "<init>", desc := "(Ljava/lang/String;Ljava/util/List;Ljava/lang/String;Lcom/example/quaymark/quaymark/Review$Withdrawal;)V" } : Jvm.MethodName)) : Jvm.Cond).before a0 Z = true := hw _ (List.mem_of_getElem? (i := 42) rfl)
theorem wd43 {a0 : Array Value} {Z : State} (hw : ∀ d ∈ tables_1, d.before a0 Z = true) : ((Jvm.Cond.instanceMethod ({ cls := "com/example/quaymark/quaymark/Review", name := "<init>", desc := "(Ljava/lang/String;Ljava/util/List;Ljava/lang/String;Lcom/example/quaymark/quaymark/Review$Withdrawal;)V" } : Jvm.MethodName)) : Jvm.Cond).before a0 Z = true := hw _ (List.mem_of_getElem? (i := 43) rfl)
theorem d_prog_23m2_13 : decode prog_23_method_2_code 13 = .ok (.areturn, 1) := by decide +kernel
def Q_submitted (Z : State) (zC : Int32) (aE : Addr) (a2 : Addr) (eA : Addr) (eK : ClassId) (eL : List Value) (h0 : Heap) (v : Option Value) (h : Heap) (L : List Loc) : Prop := ∃ (r : Addr), v = some (.ref r) ∧ Fr Z.heap.size L ∧ Keep h0 h [] ∧ h0.size ≤ r ∧ Exa Z h r "com/example/quaymark/quaymark/Review" ∧ Fld Z h r "com/example/quaymark/quaymark/Review" "submittedBy" "Ljava/lang/String;" (.ref a2) ∧ Fld Z h r "com/example/quaymark/quaymark/Review" "leftOut" "Ljava/util/List;" (.ref aE) ∧ Fld Z h r "com/example/quaymark/quaymark/Review" "signedOffBy" "Ljava/lang/String;" .null ∧ Fld Z h r "com/example/quaymark/quaymark/Review" "withdrawn" "Lcom/example/quaymark/quaymark/Review$Withdrawal;" .null
set_option maxRecDepth 65536 in
set_option maxHeartbeats 40000000 in
theorem rm_submitted (l : Launch) (Z : State) (a0 : Array Value) (hw : ∀ d ∈ tables_1, d.before a0 Z = true) (zC : Int32) (SC : Sta Z Z.heap "java/lang/String" "COMPACT_STRINGS" "Z" (.int zC)) (PC : ¬ zC = (0 : Int32)) (aE : Addr) (SE : Sta Z Z.heap "java/util/ImmutableCollections" "EMPTY_LIST" "Ljava/util/ImmutableCollections$ListN;" (.ref aE)) (a2 : Addr) (eA : Addr) (eK : ClassId) (eL : List Value) (h0 : Heap) (O0 : Old Z Z.heap.size h0) (PE1 : Exa Z h0 aE "java/util/ImmutableCollections$ListN") (PE2 : Fld Z h0 aE "java/util/ImmutableCollections$ListN" "elements" "[Ljava/lang/Object;" (.ref eA)) (PE3 : Arv Z h0 eA eK (.object "java/lang/Object") (0 : Int32) eL .null) (PE4 : Fld Z h0 aE "java/util/ImmutableCollections$ListN" "allowNulls" "Z" (.int (0 : Int32))) :
    Con l Z (⟨"com/example/quaymark/quaymark/Review", "submitted", "(Ljava/lang/String;)Lcom/example/quaymark/quaymark/Review;"⟩ : MethodName) prog_23_method_2_code 1 (some (.object "com/example/quaymark/quaymark/Review")) ({ frames := 3, cells := 1, slots := 4, locals := 42 } : Room) #[(.ref a2)] h0 (Q_submitted Z zC aE a2 eA eK eL h0) := by
  refine Con.intro pn4 ?_
  intro p e s m below meth c T0 X0 hx hby hml hown0 hnm hret hlk hZ0 e0
  have N0 := Fr.nil Z.heap.size
  refine castGo (g' := mkF m 0 #[.val (.ref a2)] []) (by first | rfl | (simp [entryFrame, mkF, argsToLocals, Value.category]; done)) ?_
  show Go _ _ _ _ (T0.setTop (mkF m 0 #[.val (.ref a2)] []))
  refine g_new X0 hx hZ0 hown0 (wd34 hw) (wd35 hw) (wd32 hw) (by decide) (by decide) e0 (hb hby d_prog_23m2_0) (q := 3) rfl ?_
  intro T75 h75 b75 g75 X75 e75 E75 A75 D75
  have F75_70 := D75 (Or.inr (wd70 hw)) (ty := (.object "java/lang/String")) (by decide)
  have F75_72 := D75 (Or.inr (wd72 hw)) (ty := (.object "java/util/List")) (by decide)
  have F75_74 := D75 (Or.inr (wd74 hw)) (ty := (.object "java/lang/String")) (by decide)
  have F75_76 := D75 (Or.inr (wd76 hw)) (ty := (.object "com/example/quaymark/quaymark/Review$Withdrawal")) (by decide)
  refine g_dup X75 hx (hb hby d_prog_23m2_3) (q := 4) rfl rfl ?_
  refine aL X75 hx (hb hby d_prog_23m2_4) (q := 5) rfl rfl rfl ?_
  have f77 : Old Z Z.heap.size h75 := O0.ext E75
  refine g_st X75 hx hZ0 hown0 (wd36 hw) (wd37 hw) (wd38 hw) (wd39 hw) (by decide) e75 (Con.back (W := 3) (rm_listof l Z a0 hw zC SC PC aE SE  h75 f77 ) hZ0 (wd39 hw) (wd38 hw) (by decide) (by decide)) (by rw [hml]; rfl) (lenOf pd3 rfl) rfl (Nat.le_of_eq rfl) (hb hby d_prog_23m2_5) (q := 8) rfl (by decide) (by decide) ?_
  intro v76 T76 L76 X76 Q76
  obtain ⟨rfl, Nq76, e76⟩ := Q76
  have N76 := Fr.app N0 Nq76
  show Go _ _ _ _ (T76.setTop (mkF m 8 #[.val (.ref a2)] [(.ref aE), (.ref a2), (.ref b75), (.ref b75)]))
  refine cN X76 hx (hb hby d_prog_23m2_8) (q := 9) rfl ?_
  refine cN X76 hx (hb hby d_prog_23m2_9) (q := 10) rfl ?_
  have f84 : Exa Z h75 aE "java/util/ImmutableCollections$ListN" := PE1.ext E75
  have f85 : Fld Z h75 aE "java/util/ImmutableCollections$ListN" "elements" "[Ljava/lang/Object;" (.ref eA) := PE2.ext E75
  have f86 : Arv Z h75 eA eK (.object "java/lang/Object") (0 : Int32) eL .null := PE3.ext E75
  have f87 : Fld Z h75 aE "java/util/ImmutableCollections$ListN" "allowNulls" "Z" (.int (0 : Int32)) := PE4.ext E75
  have gz88 : Z.heap.size ≤ b75 := Nat.le_trans O0.2.1 (Nat.le_of_eq g75.symm)
  refine g_sp X76 hx hZ0 hown0 (wd42 hw) (wd43 hw) (wd44 hw) rfl (by decide) e76 (Con.back (W := 1) (rm_rvinit l Z a0 hw zC SC PC aE SE b75 a2 eA eK eL h75 f77 f84 f85 f86 f87 A75 F75_70 F75_72 F75_74 F75_76 gz88) hZ0 (wd44 hw) (wd32 hw) (by decide) (by decide)) (by rw [hml]; rfl) (lenOf pd4 rfl) rfl (Nat.le_of_eq rfl) (hb hby d_prog_23m2_10) (q := 13) rfl (by decide) (by decide) ?_
  intro v83 T83 L83 X83 Q83
  obtain ⟨rfl, Nq83, K83q, q83_0, q83_1, q83_2, q83_3, q83_4⟩ := Q83
  have N83 := Fr.app N76 Nq83
  show Go _ _ _ _ (T83.setTop (mkF m 13 #[.val (.ref a2)] [(.ref b75)]))
  have K89 : Keep h0 h75 [] := (Keep.refl h0 []).ext E75
  have gh90 : h0.size ≤ b75 := Nat.le_trans (Nat.le_refl _) (Nat.le_of_eq g75.symm)
  have K91 : Keep h0 T83.heap [] := K89.trans K83q (allS (Or.inr gh90) all0)
  refine endP X83 hlk (fun h => by rw [hret] at h; cases h) (lastA X83 hx hret rfl rfl rfl (hb hby d_prog_23m2_13)) ?_ (by decide) (by decide)
  exact ⟨b75, rfl, N83, K91, gh90, q83_0, q83_1, q83_2, q83_3, q83_4⟩
theorem d_prog_23m12_0 : decode prog_23_method_12_code 0 = .ok (.aload_n 0, 1) := by decide +kernel
theorem d_prog_23m12_1 : decode prog_23_method_12_code 1 = .ok (.getfield 13, 3) := by decide +kernel
theorem d_prog_23m12_4 : decode prog_23_method_12_code 4 = .ok (.areturn, 1) := by decide +kernel
def Q_get_submittedBy (Z : State) (zC : Int32) (aE : Addr) (a1 : Addr) (a2 : Addr) (h0 : Heap) (v : Option Value) (h : Heap) (L : List Loc) : Prop := v = some (.ref a2) ∧ Fr Z.heap.size L ∧ h = h0
set_option maxRecDepth 65536 in
set_option maxHeartbeats 40000000 in
theorem rm_get_submittedBy (l : Launch) (Z : State) (a0 : Array Value) (hw : ∀ d ∈ tables_1, d.before a0 Z = true) (zC : Int32) (SC : Sta Z Z.heap "java/lang/String" "COMPACT_STRINGS" "Z" (.int zC)) (PC : ¬ zC = (0 : Int32)) (aE : Addr) (SE : Sta Z Z.heap "java/util/ImmutableCollections" "EMPTY_LIST" "Ljava/util/ImmutableCollections$ListN;" (.ref aE)) (a1 : Addr) (a2 : Addr) (h0 : Heap) (O0 : Old Z Z.heap.size h0) (P1 : Fld Z h0 a1 "com/example/quaymark/quaymark/Review" "submittedBy" "Ljava/lang/String;" (.ref a2)) :
    Con l Z (⟨"com/example/quaymark/quaymark/Review", "submittedBy", "()Ljava/lang/String;"⟩ : MethodName) prog_23_method_12_code 1 (some (.object "java/lang/String")) ({ frames := 0, cells := 0, slots := 0, locals := 0 } : Room) #[(.ref a1)] h0 (Q_get_submittedBy Z zC aE a1 a2 h0) := by
  refine Con.intro pn4 ?_
  intro p e s m below meth c T0 X0 hx hby hml hown0 hnm hret hlk hZ0 e0
  have N0 := Fr.nil Z.heap.size
  refine castGo (g' := mkF m 0 #[.val (.ref a1)] []) (by first | rfl | (simp [entryFrame, mkF, argsToLocals, Value.category]; done)) ?_
  show Go _ _ _ _ (T0.setTop (mkF m 0 #[.val (.ref a1)] []))
  refine aL X0 hx (hb hby d_prog_23m12_0) (q := 1) rfl rfl rfl ?_
  refine g_getF X0 hx hZ0 hown0 (host := "") (Or.inl (wd69 hw)) Via.refl P1 e0 (hb hby d_prog_23m12_1) (q := 4) rfl ?_
  intro T92 X92 e92
  refine endP X92 hlk (fun h => by rw [hret] at h; cases h) (lastA X92 hx hret rfl rfl rfl (hb hby d_prog_23m12_4)) ?_ (by decide) (by decide)
  rw [e92]
  exact ⟨rfl, N0, rfl⟩
theorem d_prog_23m13_0 : decode prog_23_method_13_code 0 = .ok (.aload_n 0, 1) := by decide +kernel
theorem d_prog_23m13_1 : decode prog_23_method_13_code 1 = .ok (.getfield 19, 3) := by decide +kernel
theorem d_prog_23m13_4 : decode prog_23_method_13_code 4 = .ok (.areturn, 1) := by decide +kernel
def Q_get_leftOut (Z : State) (zC : Int32) (aE : Addr) (a1 : Addr) (a2 : Addr) (h0 : Heap) (v : Option Value) (h : Heap) (L : List Loc) : Prop := v = some (.ref a2) ∧ Fr Z.heap.size L ∧ h = h0
set_option maxRecDepth 65536 in
set_option maxHeartbeats 40000000 in
theorem rm_get_leftOut (l : Launch) (Z : State) (a0 : Array Value) (hw : ∀ d ∈ tables_1, d.before a0 Z = true) (zC : Int32) (SC : Sta Z Z.heap "java/lang/String" "COMPACT_STRINGS" "Z" (.int zC)) (PC : ¬ zC = (0 : Int32)) (aE : Addr) (SE : Sta Z Z.heap "java/util/ImmutableCollections" "EMPTY_LIST" "Ljava/util/ImmutableCollections$ListN;" (.ref aE)) (a1 : Addr) (a2 : Addr) (h0 : Heap) (O0 : Old Z Z.heap.size h0) (P1 : Fld Z h0 a1 "com/example/quaymark/quaymark/Review" "leftOut" "Ljava/util/List;" (.ref a2)) :
    Con l Z (⟨"com/example/quaymark/quaymark/Review", "leftOut", "()Ljava/util/List;"⟩ : MethodName) prog_23_method_13_code 1 (some (.object "java/util/List")) ({ frames := 0, cells := 0, slots := 0, locals := 0 } : Room) #[(.ref a1)] h0 (Q_get_leftOut Z zC aE a1 a2 h0) := by
  refine Con.intro pn4 ?_
  intro p e s m below meth c T0 X0 hx hby hml hown0 hnm hret hlk hZ0 e0
  have N0 := Fr.nil Z.heap.size
  refine castGo (g' := mkF m 0 #[.val (.ref a1)] []) (by first | rfl | (simp [entryFrame, mkF, argsToLocals, Value.category]; done)) ?_
  show Go _ _ _ _ (T0.setTop (mkF m 0 #[.val (.ref a1)] []))
  refine aL X0 hx (hb hby d_prog_23m13_0) (q := 1) rfl rfl rfl ?_
  refine g_getF X0 hx hZ0 hown0 (host := "") (Or.inl (wd71 hw)) Via.refl P1 e0 (hb hby d_prog_23m13_1) (q := 4) rfl ?_
  intro T93 X93 e93
  refine endP X93 hlk (fun h => by rw [hret] at h; cases h) (lastA X93 hx hret rfl rfl rfl (hb hby d_prog_23m13_4)) ?_ (by decide) (by decide)
  rw [e93]
  exact ⟨rfl, N0, rfl⟩
theorem d_prog_23m14_0 : decode prog_23_method_14_code 0 = .ok (.aload_n 0, 1) := by decide +kernel
theorem d_prog_23m14_1 : decode prog_23_method_14_code 1 = .ok (.getfield 23, 3) := by decide +kernel
theorem d_prog_23m14_4 : decode prog_23_method_14_code 4 = .ok (.areturn, 1) := by decide +kernel
def Q_get_signedOffBy (Z : State) (zC : Int32) (aE : Addr) (a1 : Addr) (h0 : Heap) (v : Option Value) (h : Heap) (L : List Loc) : Prop := v = some .null ∧ Fr Z.heap.size L ∧ h = h0
set_option maxRecDepth 65536 in
set_option maxHeartbeats 40000000 in
theorem rm_get_signedOffBy (l : Launch) (Z : State) (a0 : Array Value) (hw : ∀ d ∈ tables_1, d.before a0 Z = true) (zC : Int32) (SC : Sta Z Z.heap "java/lang/String" "COMPACT_STRINGS" "Z" (.int zC)) (PC : ¬ zC = (0 : Int32)) (aE : Addr) (SE : Sta Z Z.heap "java/util/ImmutableCollections" "EMPTY_LIST" "Ljava/util/ImmutableCollections$ListN;" (.ref aE)) (a1 : Addr) (h0 : Heap) (O0 : Old Z Z.heap.size h0) (P1 : Fld Z h0 a1 "com/example/quaymark/quaymark/Review" "signedOffBy" "Ljava/lang/String;" .null) :
    Con l Z (⟨"com/example/quaymark/quaymark/Review", "signedOffBy", "()Ljava/lang/String;"⟩ : MethodName) prog_23_method_14_code 1 (some (.object "java/lang/String")) ({ frames := 0, cells := 0, slots := 0, locals := 0 } : Room) #[(.ref a1)] h0 (Q_get_signedOffBy Z zC aE a1 h0) := by
  refine Con.intro pn4 ?_
  intro p e s m below meth c T0 X0 hx hby hml hown0 hnm hret hlk hZ0 e0
  have N0 := Fr.nil Z.heap.size
  refine castGo (g' := mkF m 0 #[.val (.ref a1)] []) (by first | rfl | (simp [entryFrame, mkF, argsToLocals, Value.category]; done)) ?_
  show Go _ _ _ _ (T0.setTop (mkF m 0 #[.val (.ref a1)] []))
  refine aL X0 hx (hb hby d_prog_23m14_0) (q := 1) rfl rfl rfl ?_
  refine g_getF X0 hx hZ0 hown0 (host := "") (Or.inl (wd73 hw)) Via.refl P1 e0 (hb hby d_prog_23m14_1) (q := 4) rfl ?_
  intro T94 X94 e94
  refine endP X94 hlk (fun h => by rw [hret] at h; cases h) (lastA X94 hx hret rfl rfl rfl (hb hby d_prog_23m14_4)) ?_ (by decide) (by decide)
  rw [e94]
  exact ⟨rfl, N0, rfl⟩
theorem d_prog_23m15_0 : decode prog_23_method_15_code 0 = .ok (.aload_n 0, 1) := by decide +kernel
theorem d_prog_23m15_1 : decode prog_23_method_15_code 1 = .ok (.getfield 26, 3) := by decide +kernel
theorem d_prog_23m15_4 : decode prog_23_method_15_code 4 = .ok (.areturn, 1) := by decide +kernel
def Q_get_withdrawn (Z : State) (zC : Int32) (aE : Addr) (a1 : Addr) (h0 : Heap) (v : Option Value) (h : Heap) (L : List Loc) : Prop := v = some .null ∧ Fr Z.heap.size L ∧ h = h0
set_option maxRecDepth 65536 in
set_option maxHeartbeats 40000000 in
theorem rm_get_withdrawn (l : Launch) (Z : State) (a0 : Array Value) (hw : ∀ d ∈ tables_1, d.before a0 Z = true) (zC : Int32) (SC : Sta Z Z.heap "java/lang/String" "COMPACT_STRINGS" "Z" (.int zC)) (PC : ¬ zC = (0 : Int32)) (aE : Addr) (SE : Sta Z Z.heap "java/util/ImmutableCollections" "EMPTY_LIST" "Ljava/util/ImmutableCollections$ListN;" (.ref aE)) (a1 : Addr) (h0 : Heap) (O0 : Old Z Z.heap.size h0) (P1 : Fld Z h0 a1 "com/example/quaymark/quaymark/Review" "withdrawn" "Lcom/example/quaymark/quaymark/Review$Withdrawal;" .null) :
    Con l Z (⟨"com/example/quaymark/quaymark/Review", "withdrawn", "()Lcom/example/quaymark/quaymark/Review$Withdrawal;"⟩ : MethodName) prog_23_method_15_code 1 (some (.object "com/example/quaymark/quaymark/Review$Withdrawal")) ({ frames := 0, cells := 0, slots := 0, locals := 0 } : Room) #[(.ref a1)] h0 (Q_get_withdrawn Z zC aE a1 h0) := by
  refine Con.intro pn4 ?_
  intro p e s m below meth c T0 X0 hx hby hml hown0 hnm hret hlk hZ0 e0
  have N0 := Fr.nil Z.heap.size
  refine castGo (g' := mkF m 0 #[.val (.ref a1)] []) (by first | rfl | (simp [entryFrame, mkF, argsToLocals, Value.category]; done)) ?_
  show Go _ _ _ _ (T0.setTop (mkF m 0 #[.val (.ref a1)] []))
  refine aL X0 hx (hb hby d_prog_23m15_0) (q := 1) rfl rfl rfl ?_
  refine g_getF X0 hx hZ0 hown0 (host := "") (Or.inl (wd75 hw)) Via.refl P1 e0 (hb hby d_prog_23m15_1) (q := 4) rfl ?_
  intro T95 X95 e95
  refine endP X95 hlk (fun h => by rw [hret] at h; cases h) (lastA X95 hx hret rfl rfl rfl (hb hby d_prog_23m15_4)) ?_ (by decide) (by decide)
  rw [e95]
  exact ⟨rfl, N0, rfl⟩
theorem d_jdk_42m66_0 : decode jdk_42_method_66_code 0 = .ok (.aload_n 0, 1) := by decide +kernel
theorem d_jdk_42m66_1 : decode jdk_42_method_66_code 1 = .ok (.aload_n 1, 1) := by decide +kernel
theorem d_jdk_42m66_2 : decode jdk_42_method_66_code 2 = .ok (.if_acmp .ne 5, 3) := by decide +kernel
theorem d_jdk_42m66_5 : decode jdk_42_method_66_code 5 = .ok (.iconst 1, 1) := by decide +kernel
theorem d_jdk_42m66_6 : decode jdk_42_method_66_code 6 = .ok (.ireturn, 1) := by decide +kernel
def Q_eqid (Z : State) (zC : Int32) (aE : Addr) (a1 : Addr) (h0 : Heap) (v : Option Value) (h : Heap) (L : List Loc) : Prop := v = some (.int (1 : Int32)) ∧ Fr Z.heap.size L ∧ h = h0
set_option maxRecDepth 65536 in
set_option maxHeartbeats 40000000 in
theorem rm_eqid (l : Launch) (Z : State) (a0 : Array Value) (hw : ∀ d ∈ tables_1, d.before a0 Z = true) (zC : Int32) (SC : Sta Z Z.heap "java/lang/String" "COMPACT_STRINGS" "Z" (.int zC)) (PC : ¬ zC = (0 : Int32)) (aE : Addr) (SE : Sta Z Z.heap "java/util/ImmutableCollections" "EMPTY_LIST" "Ljava/util/ImmutableCollections$ListN;" (.ref aE)) (a1 : Addr) (h0 : Heap) (O0 : Old Z Z.heap.size h0)  :
    Con l Z (⟨"java/lang/String", "equals", "(Ljava/lang/Object;)Z"⟩ : MethodName) jdk_42_method_66_code 3 (some .boolean) ({ frames := 0, cells := 0, slots := 0, locals := 0 } : Room) #[(.ref a1), (.ref a1)] h0 (Q_eqid Z zC aE a1 h0) := by
  refine Con.intro pn0 ?_
  intro p e s m below meth c T0 X0 hx hby hml hown0 hnm hret hlk hZ0 e0
  have N0 := Fr.nil Z.heap.size
  refine castGo (g' := mkF m 0 #[.val (.ref a1), .val (.ref a1), .unset] []) (by first | rfl | (simp [entryFrame, mkF, argsToLocals, Value.category]; done)) ?_
  show Go _ _ _ _ (T0.setTop (mkF m 0 #[.val (.ref a1), .val (.ref a1), .unset] []))
  refine aL X0 hx (hb hby d_jdk_42m66_0) (q := 1) rfl rfl rfl ?_
  refine aL X0 hx (hb hby d_jdk_42m66_1) (q := 2) rfl rfl rfl ?_
  refine g_acmp X0 hx (hb hby d_jdk_42m66_2) (q := 5) rfl rfl (same := true) (decide_eq_true rfl) (by decide) (by decide) ?_
  refine cI X0 hx (hb hby d_jdk_42m66_5) (q := 6) rfl (z := (1 : Int32)) rfl ?_
  refine endP X0 hlk (fun h => by rw [hret] at h; cases h) (lastN X0 hx (t := .boolean) (z' := (1 : Int32)) hret (by simp) (by decide) (hb hby d_jdk_42m66_6)) ?_ (by decide) (by decide)
  rw [e0]
  exact ⟨rfl, N0, rfl⟩
theorem d_jdk_45m3_0 : decode jdk_45_method_3_code 0 = .ok (.aload_n 0, 1) := by decide +kernel
theorem d_jdk_45m3_1 : decode jdk_45_method_3_code 1 = .ok (.getfield 7, 3) := by decide +kernel
theorem wd101 {a0 : Array Value} {Z : State} (hw : ∀ d ∈ tables_1, d.before a0 Z = true) : ((Jvm.Cond.fieldLink "java/util/ImmutableCollections$ListN" (7 : Nat) "java/util/ImmutableCollections$ListN" "elements" "[Ljava/lang/Object;") : Jvm.Cond).before a0 Z = true := hw _ (List.mem_of_getElem? (i := 101) rfl)
theorem d_jdk_45m3_4 : decode jdk_45_method_3_code 4 = .ok (.arraylength, 1) := by decide +kernel
theorem d_jdk_45m3_5 : decode jdk_45_method_3_code 5 = .ok (.ireturn, 1) := by decide +kernel
def Q_lnsize (Z : State) (zC : Int32) (aE : Addr) (eA : Addr) (eK : ClassId) (eL : List Value) (h0 : Heap) (v : Option Value) (h : Heap) (L : List Loc) : Prop := v = some (.int (0 : Int32)) ∧ Fr Z.heap.size L ∧ h = h0
theorem pn5 : plainName "java/util/ImmutableCollections$ListN" = true := by first | (simp [plainName, overriddenIn]; done) | decide +kernel
set_option maxRecDepth 65536 in
set_option maxHeartbeats 40000000 in
theorem rm_lnsize (l : Launch) (Z : State) (a0 : Array Value) (hw : ∀ d ∈ tables_1, d.before a0 Z = true) (zC : Int32) (SC : Sta Z Z.heap "java/lang/String" "COMPACT_STRINGS" "Z" (.int zC)) (PC : ¬ zC = (0 : Int32)) (aE : Addr) (SE : Sta Z Z.heap "java/util/ImmutableCollections" "EMPTY_LIST" "Ljava/util/ImmutableCollections$ListN;" (.ref aE)) (eA : Addr) (eK : ClassId) (eL : List Value) (h0 : Heap) (O0 : Old Z Z.heap.size h0) (PE1 : Exa Z h0 aE "java/util/ImmutableCollections$ListN") (PE2 : Fld Z h0 aE "java/util/ImmutableCollections$ListN" "elements" "[Ljava/lang/Object;" (.ref eA)) (PE3 : Arv Z h0 eA eK (.object "java/lang/Object") (0 : Int32) eL .null) (PE4 : Fld Z h0 aE "java/util/ImmutableCollections$ListN" "allowNulls" "Z" (.int (0 : Int32))) :
    Con l Z (⟨"java/util/ImmutableCollections$ListN", "size", "()I"⟩ : MethodName) jdk_45_method_3_code 1 (some .int) ({ frames := 0, cells := 0, slots := 0, locals := 0 } : Room) #[(.ref aE)] h0 (Q_lnsize Z zC aE eA eK eL h0) := by
  refine Con.intro pn5 ?_
  intro p e s m below meth c T0 X0 hx hby hml hown0 hnm hret hlk hZ0 e0
  have N0 := Fr.nil Z.heap.size
  refine castGo (g' := mkF m 0 #[.val (.ref aE)] []) (by first | rfl | (simp [entryFrame, mkF, argsToLocals, Value.category]; done)) ?_
  show Go _ _ _ _ (T0.setTop (mkF m 0 #[.val (.ref aE)] []))
  refine aL X0 hx (hb hby d_jdk_45m3_0) (q := 1) rfl rfl rfl ?_
  refine g_getF X0 hx hZ0 hown0 (host := "") (Or.inl (wd101 hw)) Via.refl PE2 e0 (hb hby d_jdk_45m3_1) (q := 4) rfl ?_
  intro T96 X96 e96
  refine g_len X96 hx hZ0 PE3 e96 (hb hby d_jdk_45m3_4) (q := 5) rfl ?_
  refine endP X96 hlk (fun h => by rw [hret] at h; cases h) (lastI X96 hx hret (hb hby d_jdk_45m3_5)) ?_ (by decide) (by decide)
  rw [e96]
  exact ⟨rfl, N0, rfl⟩
theorem d_jdk_53m1_0 : decode jdk_53_method_1_code 0 = .ok (.aload_n 0, 1) := by decide +kernel
theorem d_jdk_53m1_1 : decode jdk_53_method_1_code 1 = .ok (.invokespecial 1, 3) := by decide +kernel
theorem wd138 {a0 : Array Value} {Z : State} (hw : ∀ d ∈ tables_1, d.before a0 Z = true) : ((Jvm.Cond.methodLink "java/util/ImmutableCollections$ListItr" (1 : Nat) ({ cls := "java/lang/Object", name := "<init>", desc := "()V" } : Jvm.MethodName)) : Jvm.Cond).before a0 Z = true := hw _ (List.mem_of_getElem? (i := 138) rfl)
theorem d_jdk_53m1_4 : decode jdk_53_method_1_code 4 = .ok (.aload_n 0, 1) := by decide +kernel
theorem d_jdk_53m1_5 : decode jdk_53_method_1_code 5 = .ok (.aload_n 1, 1) := by decide +kernel
theorem d_jdk_53m1_6 : decode jdk_53_method_1_code 6 = .ok (.putfield 7, 3) := by decide +kernel
theorem wd139 {a0 : Array Value} {Z : State} (hw : ∀ d ∈ tables_1, d.before a0 Z = true) : ((Jvm.Cond.fieldLink "java/util/ImmutableCollections$ListItr" (7 : Nat) "java/util/ImmutableCollections$ListItr" "list" "Ljava/util/List;") : Jvm.Cond).before a0 Z = true := hw _ (List.mem_of_getElem? (i := 139) rfl)
theorem wd140 {a0 : Array Value} {Z : State} (hw : ∀ d ∈ tables_1, d.before a0 Z = true) : ((Jvm.Cond.laysFinal "java/util/ImmutableCollections$ListItr" "java/util/ImmutableCollections$ListItr" "list" "Ljava/util/List;") : Jvm.Cond).before a0 Z = true := hw _ (List.mem_of_getElem? (i := 140) rfl)
theorem wd128 {a0 : Array Value} {Z : State} (hw : ∀ d ∈ tables_1, d.before a0 Z = true) : ((Jvm.Cond.instantiable "java/util/ImmutableCollections$ListItr" (4 : Nat)) : Jvm.Cond).before a0 Z = true := hw _ (List.mem_of_getElem? (i := 128) rfl)
theorem d_jdk_53m1_9 : decode jdk_53_method_1_code 9 = .ok (.aload_n 0, 1) := by decide +kernel
theorem d_jdk_53m1_10 : decode jdk_53_method_1_code 10 = .ok (.iload_n 2, 1) := by decide +kernel
theorem d_jdk_53m1_11 : decode jdk_53_method_1_code 11 = .ok (.putfield 13, 3) := by decide +kernel
theorem wd141 {a0 : Array Value} {Z : State} (hw : ∀ d ∈ tables_1, d.before a0 Z = true) : ((Jvm.Cond.fieldLink "java/util/ImmutableCollections$ListItr" (13 : Nat) "java/util/ImmutableCollections$ListItr" "size" "I") : Jvm.Cond).before a0 Z = true := hw _ (List.mem_of_getElem? (i := 141) rfl)
theorem wd142 {a0 : Array Value} {Z : State} (hw : ∀ d ∈ tables_1, d.before a0 Z = true) : ((Jvm.Cond.laysFinal "java/util/ImmutableCollections$ListItr" "java/util/ImmutableCollections$ListItr" "size" "I") : Jvm.Cond).before a0 Z = true := hw _ (List.mem_of_getElem? (i := 142) rfl)
theorem d_jdk_53m1_14 : decode jdk_53_method_1_code 14 = .ok (.aload_n 0, 1) := by decide +kernel
theorem d_jdk_53m1_15 : decode jdk_53_method_1_code 15 = .ok (.iconst 0, 1) := by decide +kernel
theorem d_jdk_53m1_16 : decode jdk_53_method_1_code 16 = .ok (.putfield 17, 3) := by decide +kernel
theorem wd143 {a0 : Array Value} {Z : State} (hw : ∀ d ∈ tables_1, d.before a0 Z = true) : ((Jvm.Cond.fieldLink "java/util/ImmutableCollections$ListItr" (17 : Nat) "java/util/ImmutableCollections$ListItr" "cursor" "I") : Jvm.Cond).before a0 Z = true := hw _ (List.mem_of_getElem? (i := 143) rfl)
theorem wd144 {a0 : Array Value} {Z : State} (hw : ∀ d ∈ tables_1, d.before a0 Z = true) : ((Jvm.Cond.lays "java/util/ImmutableCollections$ListItr" "java/util/ImmutableCollections$ListItr" "cursor" "I") : Jvm.Cond).before a0 Z = true := hw _ (List.mem_of_getElem? (i := 144) rfl)
theorem d_jdk_53m1_19 : decode jdk_53_method_1_code 19 = .ok (.aload_n 0, 1) := by decide +kernel
theorem d_jdk_53m1_20 : decode jdk_53_method_1_code 20 = .ok (.iconst 0, 1) := by decide +kernel
theorem d_jdk_53m1_21 : decode jdk_53_method_1_code 21 = .ok (.putfield 20, 3) := by decide +kernel
theorem wd145 {a0 : Array Value} {Z : State} (hw : ∀ d ∈ tables_1, d.before a0 Z = true) : ((Jvm.Cond.fieldLink "java/util/ImmutableCollections$ListItr" (20 : Nat) "java/util/ImmutableCollections$ListItr" "isListIterator" "Z") : Jvm.Cond).before a0 Z = true := hw _ (List.mem_of_getElem? (i := 145) rfl)
theorem wd146 {a0 : Array Value} {Z : State} (hw : ∀ d ∈ tables_1, d.before a0 Z = true) : ((Jvm.Cond.laysFinal "java/util/ImmutableCollections$ListItr" "java/util/ImmutableCollections$ListItr" "isListIterator" "Z") : Jvm.Cond).before a0 Z = true := hw _ (List.mem_of_getElem? (i := 146) rfl)
theorem d_jdk_53m1_24 : decode jdk_53_method_1_code 24 = .ok (.return_, 1) := by decide +kernel
def Q_itinit (Z : State) (zC : Int32) (aE : Addr) (a1 : Addr) (a2 : Addr) (h0 : Heap) (v : Option Value) (h : Heap) (L : List Loc) : Prop := v = none ∧ Fr Z.heap.size L ∧ Keep h0 h [a1] ∧ Exa Z h a1 "java/util/ImmutableCollections$ListItr" ∧ Fld Z h a1 "java/util/ImmutableCollections$ListItr" "size" "I" (.int (0 : Int32)) ∧ Fld Z h a1 "java/util/ImmutableCollections$ListItr" "cursor" "I" (.int (0 : Int32))
theorem pn6 : plainName "java/util/ImmutableCollections$ListItr" = true := by first | (simp [plainName, overriddenIn]; done) | decide +kernel
set_option maxRecDepth 65536 in
set_option maxHeartbeats 40000000 in
theorem rm_itinit (l : Launch) (Z : State) (a0 : Array Value) (hw : ∀ d ∈ tables_1, d.before a0 Z = true) (zC : Int32) (SC : Sta Z Z.heap "java/lang/String" "COMPACT_STRINGS" "Z" (.int zC)) (PC : ¬ zC = (0 : Int32)) (aE : Addr) (SE : Sta Z Z.heap "java/util/ImmutableCollections" "EMPTY_LIST" "Ljava/util/ImmutableCollections$ListN;" (.ref aE)) (a1 : Addr) (a2 : Addr) (h0 : Heap) (O0 : Old Z Z.heap.size h0) (P1 : Exa Z h0 a1 "java/util/ImmutableCollections$ListItr") (P2 : Z.heap.size ≤ a1) (P3 : Fld Z h0 a1 "java/util/ImmutableCollections$ListItr" "list" "Ljava/util/List;" .null) (P4 : Fld Z h0 a1 "java/util/ImmutableCollections$ListItr" "size" "I" (.int (0 : Int32))) (P5 : Fld Z h0 a1 "java/util/ImmutableCollections$ListItr" "cursor" "I" (.int (0 : Int32))) (P6 : Fld Z h0 a1 "java/util/ImmutableCollections$ListItr" "isListIterator" "Z" (.int (0 : Int32))) :
    Con l Z (⟨"java/util/ImmutableCollections$ListItr", "<init>", "(Ljava/util/List;I)V"⟩ : MethodName) jdk_53_method_1_code 3 none ({ frames := 1, cells := 0, slots := 0, locals := 12 } : Room) #[(.ref a1), (.ref a2), (.int (0 : Int32))] h0 (Q_itinit Z zC aE a1 a2 h0) := by
  refine Con.intro pn6 ?_
  intro p e s m below meth c T0 X0 hx hby hml hown0 hnm hret hlk hZ0 e0
  have N0 := Fr.nil Z.heap.size
  refine castGo (g' := mkF m 0 #[.val (.ref a1), .val (.ref a2), .val (.int (0 : Int32))] []) (by first | rfl | (simp [entryFrame, mkF, argsToLocals, Value.category]; done)) ?_
  show Go _ _ _ _ (T0.setTop (mkF m 0 #[.val (.ref a1), .val (.ref a2), .val (.int (0 : Int32))] []))
  refine aL X0 hx (hb hby d_jdk_53m1_0) (q := 1) rfl rfl rfl ?_
  refine g_init0 X0 hx hZ0 hown0 (wd138 hw) (wd12 hw) (wd13 hw) (by rw [hml]; rfl) (by decide) (W := 0) (Nat.le_of_eq rfl) (by decide) e0 (hb hby d_jdk_53m1_1) (q := 4) rfl ?_
  intro T97 X97 e97
  refine aL X97 hx (hb hby d_jdk_53m1_4) (q := 5) rfl rfl rfl ?_
  refine aL X97 hx (hb hby d_jdk_53m1_5) (q := 6) rfl rfl rfl ?_
  refine g_putF X97 hx hZ0 hown0 (host := "") (Or.inl (wd139 hw)) Via.refl P3 P1 (Or.inr ⟨(wd140 hw), rfl, hnm⟩) (wd128 hw) (ty := (.object "java/util/List")) (by decide) rfl rfl e97 (hb hby d_jdk_53m1_6) (q := 9) rfl ?_
  intro T98 h98 X98 e98 W98
  have N98 := Fr.snoc X98 N0 P2
  have Fw98 : Fld Z h98 a1 "java/util/ImmutableCollections$ListItr" "list" "Ljava/util/List;" (.ref a2) := P3.same W98
  refine aL X98 hx (hb hby d_jdk_53m1_9) (q := 10) rfl rfl rfl ?_
  refine iL X98 hx (hb hby d_jdk_53m1_10) (q := 11) rfl rfl ?_
  have f99 : Fld Z h98 a1 "java/util/ImmutableCollections$ListItr" "size" "I" (.int (0 : Int32)) := P4.other W98 (Or.inr (slot_ne (Or.inr (wd142 hw)) (Or.inr (wd140 hw)) (by decide) (t := .int) (t' := (.object "java/util/List")) (by decide) (by decide)))
  have f100 : Exa Z h98 a1 "java/util/ImmutableCollections$ListItr" := P1.wr W98
  refine g_putF X98 hx hZ0 hown0 (host := "") (Or.inl (wd141 hw)) Via.refl f99 f100 (Or.inr ⟨(wd142 hw), rfl, hnm⟩) (wd128 hw) (ty := .int) (by decide) rfl rfl e98 (hb hby d_jdk_53m1_11) (q := 14) rfl ?_
  intro T101 h101 X101 e101 W101
  have N101 := Fr.snoc X101 N98 P2
  have Fw101 : Fld Z h101 a1 "java/util/ImmutableCollections$ListItr" "size" "I" (.int (0 : Int32)) := f99.same W101
  refine aL X101 hx (hb hby d_jdk_53m1_14) (q := 15) rfl rfl rfl ?_
  refine cI X101 hx (hb hby d_jdk_53m1_15) (q := 16) rfl (z := (0 : Int32)) rfl ?_
  have f102 : Fld Z h98 a1 "java/util/ImmutableCollections$ListItr" "cursor" "I" (.int (0 : Int32)) := P5.other W98 (Or.inr (slot_ne (Or.inl (wd144 hw)) (Or.inr (wd140 hw)) (by decide) (t := .int) (t' := (.object "java/util/List")) (by decide) (by decide)))
  have f103 : Fld Z h101 a1 "java/util/ImmutableCollections$ListItr" "cursor" "I" (.int (0 : Int32)) := f102.other W101 (Or.inr (slot_ne (Or.inl (wd144 hw)) (Or.inr (wd142 hw)) (by decide) (t := .int) (t' := .int) (by decide) (by decide)))
  have f104 : Exa Z h101 a1 "java/util/ImmutableCollections$ListItr" := f100.wr W101
  refine g_putF X101 hx hZ0 hown0 (host := "") (Or.inl (wd143 hw)) Via.refl f103 f104 (Or.inl (wd144 hw)) (wd128 hw) (ty := .int) (by decide) rfl rfl e101 (hb hby d_jdk_53m1_16) (q := 19) rfl ?_
  intro T105 h105 X105 e105 W105
  have N105 := Fr.snoc X105 N101 P2
  have Fw105 : Fld Z h105 a1 "java/util/ImmutableCollections$ListItr" "cursor" "I" (.int (0 : Int32)) := f103.same W105
  refine aL X105 hx (hb hby d_jdk_53m1_19) (q := 20) rfl rfl rfl ?_
  refine cI X105 hx (hb hby d_jdk_53m1_20) (q := 21) rfl (z := (0 : Int32)) rfl ?_
  have f106 : Fld Z h98 a1 "java/util/ImmutableCollections$ListItr" "isListIterator" "Z" (.int (0 : Int32)) := P6.other W98 (Or.inr (slot_ne (Or.inr (wd146 hw)) (Or.inr (wd140 hw)) (by decide) (t := .boolean) (t' := (.object "java/util/List")) (by decide) (by decide)))
  have f107 : Fld Z h101 a1 "java/util/ImmutableCollections$ListItr" "isListIterator" "Z" (.int (0 : Int32)) := f106.other W101 (Or.inr (slot_ne (Or.inr (wd146 hw)) (Or.inr (wd142 hw)) (by decide) (t := .boolean) (t' := .int) (by decide) (by decide)))
  have f108 : Fld Z h105 a1 "java/util/ImmutableCollections$ListItr" "isListIterator" "Z" (.int (0 : Int32)) := f107.other W105 (Or.inr (slot_ne (Or.inr (wd146 hw)) (Or.inl (wd144 hw)) (by decide) (t := .boolean) (t' := .int) (by decide) (by decide)))
  have f109 : Exa Z h105 a1 "java/util/ImmutableCollections$ListItr" := f104.wr W105
  refine g_putF X105 hx hZ0 hown0 (host := "") (Or.inl (wd145 hw)) Via.refl f108 f109 (Or.inr ⟨(wd146 hw), rfl, hnm⟩) (wd128 hw) (ty := .boolean) (by decide) rfl rfl e105 (hb hby d_jdk_53m1_21) (q := 24) rfl ?_
  intro T110 h110 X110 e110 W110
  have N110 := Fr.snoc X110 N105 P2
  have Fw110 : Fld Z h110 a1 "java/util/ImmutableCollections$ListItr" "isListIterator" "Z" (.int (0 : Int32)) := f108.same W110
  have K111 : Keep h0 h98 [a1] := (Keep.refl h0 [a1]).wr W98 (Or.inl (by simp))
  have K112 : Keep h0 h101 [a1] := K111.wr W101 (Or.inl (by simp))
  have K113 : Keep h0 h105 [a1] := K112.wr W105 (Or.inl (by simp))
  have K114 : Keep h0 h110 [a1] := K113.wr W110 (Or.inl (by simp))
  have f115 : Exa Z h110 a1 "java/util/ImmutableCollections$ListItr" := f109.wr W110
  have f116 : Fld Z h105 a1 "java/util/ImmutableCollections$ListItr" "size" "I" (.int (0 : Int32)) := Fw101.other W105 (Or.inr (slot_ne (Or.inr (wd142 hw)) (Or.inl (wd144 hw)) (by decide) (t := .int) (t' := .int) (by decide) (by decide)))
  have f117 : Fld Z h110 a1 "java/util/ImmutableCollections$ListItr" "size" "I" (.int (0 : Int32)) := f116.other W110 (Or.inr (slot_ne (Or.inr (wd142 hw)) (Or.inr (wd146 hw)) (by decide) (t := .int) (t' := .boolean) (by decide) (by decide)))
  have f118 : Fld Z h110 a1 "java/util/ImmutableCollections$ListItr" "cursor" "I" (.int (0 : Int32)) := Fw105.other W110 (Or.inr (slot_ne (Or.inl (wd144 hw)) (Or.inr (wd146 hw)) (by decide) (t := .int) (t' := .boolean) (by decide) (by decide)))
  refine endP X110 hlk (fun _ => rfl) (lastV X110 hx hret (hb hby d_jdk_53m1_24)) ?_ (by decide) (by decide)
  rw [e110]
  exact ⟨rfl, N110, K114, f115, f117, f118⟩
theorem d_jdk_46m10_0 : decode jdk_46_method_10_code 0 = .ok (.new 61, 3) := by decide +kernel
theorem wd127 {a0 : Array Value} {Z : State} (hw : ∀ d ∈ tables_1, d.before a0 Z = true) : ((Jvm.Cond.classLink "java/util/ImmutableCollections$AbstractImmutableList" (61 : Nat) "java/util/ImmutableCollections$ListItr") : Jvm.Cond).before a0 Z = true := hw _ (List.mem_of_getElem? (i := 127) rfl)
theorem wd129 {a0 : Array Value} {Z : State} (hw : ∀ d ∈ tables_1, d.before a0 Z = true) : ((Jvm.Cond.initialized "java/util/ImmutableCollections$ListItr") : Jvm.Cond).before a0 Z = true := hw _ (List.mem_of_getElem? (i := 129) rfl)
theorem d_jdk_46m10_3 : decode jdk_46_method_10_code 3 = .ok (.dup, 1) := by decide +kernel
theorem d_jdk_46m10_4 : decode jdk_46_method_10_code 4 = .ok (.aload_n 0, 1) := by decide +kernel
theorem d_jdk_46m10_5 : decode jdk_46_method_10_code 5 = .ok (.aload_n 0, 1) := by decide +kernel
theorem d_jdk_46m10_6 : decode jdk_46_method_10_code 6 = .ok (.invokevirtual 13, 3) := by decide +kernel
theorem wd100 {a0 : Array Value} {Z : State} (hw : ∀ d ∈ tables_1, d.before a0 Z = true) : ((Jvm.Cond.code ({ cls := "java/util/ImmutableCollections$ListN", name := "size", desc := "()I" } : Jvm.MethodName) jdk_45_method_3_code (1 : Nat) (Option.some Jvm.ClassFile.FieldType.int)) : Jvm.Cond).before a0 Z = true := hw _ (List.mem_of_getElem? (i := 100) rfl)
theorem wd99 {a0 : Array Value} {Z : State} (hw : ∀ d ∈ tables_1, d.before a0 Z = true) : ((Jvm.Cond.initialized "java/util/ImmutableCollections$ListN") : Jvm.Cond).before a0 Z = true := hw _ (List.mem_of_getElem? (i := 99) rfl)
theorem pd5 : parseMethodDescriptor "()I" = some ⟨[], some .int⟩ := by decide +kernel
theorem wd133 {a0 : Array Value} {Z : State} (hw : ∀ d ∈ tables_1, d.before a0 Z = true) : ((Jvm.Cond.selects "java/util/ImmutableCollections$ListN" ({ cls := "java/util/ImmutableCollections$AbstractImmutableList", name := "size", desc := "()I" } : Jvm.MethodName) ({ cls := "java/util/ImmutableCollections$ListN", name := "size", desc := "()I" } : Jvm.MethodName)) : Jvm.Cond).before a0 Z = true := hw _ (List.mem_of_getElem? (i := 133) rfl)
theorem wd130 {a0 : Array Value} {Z : State} (hw : ∀ d ∈ tables_1, d.before a0 Z = true) : ((Jvm.Cond.methodLink "java/util/ImmutableCollections$AbstractImmutableList" (13 : Nat) ({ cls := "java/util/ImmutableCollections$AbstractImmutableList", name := "size", desc := "()I" } : Jvm.MethodName)) : Jvm.Cond).before a0 Z = true := hw _ (List.mem_of_getElem? (i := 130) rfl)
theorem wd131 {a0 : Array Value} {Z : State} (hw : ∀ d ∈ tables_1, d.before a0 Z = true) : ((Jvm.Cond.sameMethod "java/util/ImmutableCollections$AbstractImmutableList" "java/util/AbstractCollection" "size" "()I") : Jvm.Cond).before a0 Z = true := hw _ (List.mem_of_getElem? (i := 131) rfl)
theorem wd132 {a0 : Array Value} {Z : State} (hw : ∀ d ∈ tables_1, d.before a0 Z = true) : ((Jvm.Cond.declares ({ cls := "java/util/AbstractCollection", name := "size", desc := "()I" } : Jvm.MethodName)) : Jvm.Cond).before a0 Z = true := hw _ (List.mem_of_getElem? (i := 132) rfl)
theorem wd96 {a0 : Array Value} {Z : State} (hw : ∀ d ∈ tables_1, d.before a0 Z = true) : ((Jvm.Cond.instanceMethod ({ cls := "java/util/ImmutableCollections$ListN", name := "size", desc := "()I" } : Jvm.MethodName)) : Jvm.Cond).before a0 Z = true := hw _ (List.mem_of_getElem? (i := 96) rfl)
theorem d_jdk_46m10_9 : decode jdk_46_method_10_code 9 = .ok (.invokespecial 63, 3) := by decide +kernel
theorem wd137 {a0 : Array Value} {Z : State} (hw : ∀ d ∈ tables_1, d.before a0 Z = true) : ((Jvm.Cond.code ({ cls := "java/util/ImmutableCollections$ListItr", name := "<init>", desc := "(Ljava/util/List;I)V" } : Jvm.MethodName) jdk_53_method_1_code (3 : Nat) (Option.none : Option Jvm.ClassFile.FieldType)) : Jvm.Cond).before a0 Z = true := hw _ (List.mem_of_getElem? (i := 137) rfl)
theorem pd6 : parseMethodDescriptor "(Ljava/util/List;I)V" = some ⟨[(.object "java/util/List"), .int], none⟩ := by decide +kernel
theorem wd134 {a0 : Array Value} {Z : State} (hw : ∀ d ∈ tables_1, d.before a0 Z = true) : ((Jvm.Cond.methodLink "java/util/ImmutableCollections$AbstractImmutableList" (63 : Nat) ({ cls := "java/util/ImmutableCollections$ListItr", name := "<init>", desc := "(Ljava/util/List;I)V" } : Jvm.MethodName)) : Jvm.Cond).before a0 Z = true := hw _ (List.mem_of_getElem? (i := 134) rfl)
theorem wd135 {a0 : Array Value} {Z : State} (hw : ∀ d ∈ tables_1, d.before a0 Z = true) : ((Jvm.Cond.instanceMethod ({ cls := "java/util/ImmutableCollections$ListItr", name := "<init>", desc := "(Ljava/util/List;I)V" } : Jvm.MethodName)) : Jvm.Cond).before a0 Z = true := hw _ (List.mem_of_getElem? (i := 135) rfl)
theorem d_jdk_46m10_12 : decode jdk_46_method_10_code 12 = .ok (.areturn, 1) := by decide +kernel
def Q_iter (Z : State) (zC : Int32) (aE : Addr) (eA : Addr) (eK : ClassId) (eL : List Value) (h0 : Heap) (v : Option Value) (h : Heap) (L : List Loc) : Prop := ∃ (r : Addr), v = some (.ref r) ∧ Fr Z.heap.size L ∧ Keep h0 h [] ∧ h0.size ≤ r ∧ Exa Z h r "java/util/ImmutableCollections$ListItr" ∧ Fld Z h r "java/util/ImmutableCollections$ListItr" "size" "I" (.int (0 : Int32)) ∧ Fld Z h r "java/util/ImmutableCollections$ListItr" "cursor" "I" (.int (0 : Int32))
theorem pn7 : plainName "java/util/ImmutableCollections$AbstractImmutableList" = true := by first | (simp [plainName, overriddenIn]; done) | decide +kernel
set_option maxRecDepth 65536 in
set_option maxHeartbeats 40000000 in
theorem rm_iter (l : Launch) (Z : State) (a0 : Array Value) (hw : ∀ d ∈ tables_1, d.before a0 Z = true) (zC : Int32) (SC : Sta Z Z.heap "java/lang/String" "COMPACT_STRINGS" "Z" (.int zC)) (PC : ¬ zC = (0 : Int32)) (aE : Addr) (SE : Sta Z Z.heap "java/util/ImmutableCollections" "EMPTY_LIST" "Ljava/util/ImmutableCollections$ListN;" (.ref aE)) (eA : Addr) (eK : ClassId) (eL : List Value) (h0 : Heap) (O0 : Old Z Z.heap.size h0) (PE1 : Exa Z h0 aE "java/util/ImmutableCollections$ListN") (PE2 : Fld Z h0 aE "java/util/ImmutableCollections$ListN" "elements" "[Ljava/lang/Object;" (.ref eA)) (PE3 : Arv Z h0 eA eK (.object "java/lang/Object") (0 : Int32) eL .null) (PE4 : Fld Z h0 aE "java/util/ImmutableCollections$ListN" "allowNulls" "Z" (.int (0 : Int32))) :
    Con l Z (⟨"java/util/ImmutableCollections$AbstractImmutableList", "iterator", "()Ljava/util/Iterator;"⟩ : MethodName) jdk_46_method_10_code 1 (some (.object "java/util/Iterator")) ({ frames := 2, cells := 1, slots := 4, locals := 27 } : Room) #[(.ref aE)] h0 (Q_iter Z zC aE eA eK eL h0) := by
  refine Con.intro pn7 ?_
  intro p e s m below meth c T0 X0 hx hby hml hown0 hnm hret hlk hZ0 e0
  have N0 := Fr.nil Z.heap.size
  refine castGo (g' := mkF m 0 #[.val (.ref aE)] []) (by first | rfl | (simp [entryFrame, mkF, argsToLocals, Value.category]; done)) ?_
  show Go _ _ _ _ (T0.setTop (mkF m 0 #[.val (.ref aE)] []))
  refine g_new X0 hx hZ0 hown0 (wd127 hw) (wd128 hw) (wd129 hw) (by decide) (by decide) e0 (hb hby d_jdk_46m10_0) (q := 3) rfl ?_
  intro T119 h119 b119 g119 X119 e119 E119 A119 D119
  have F119_140 := D119 (Or.inr (wd140 hw)) (ty := (.object "java/util/List")) (by decide)
  have F119_142 := D119 (Or.inr (wd142 hw)) (ty := .int) (by decide)
  have F119_144 := D119 (Or.inl (wd144 hw)) (ty := .int) (by decide)
  have F119_146 := D119 (Or.inr (wd146 hw)) (ty := .boolean) (by decide)
  refine g_dup X119 hx (hb hby d_jdk_46m10_3) (q := 4) rfl rfl ?_
  refine aL X119 hx (hb hby d_jdk_46m10_4) (q := 5) rfl rfl rfl ?_
  refine aL X119 hx (hb hby d_jdk_46m10_5) (q := 6) rfl rfl rfl ?_
  have f125 : Exa Z h119 aE "java/util/ImmutableCollections$ListN" := PE1.ext E119
  have f126 : Fld Z h119 aE "java/util/ImmutableCollections$ListN" "elements" "[Ljava/lang/Object;" (.ref eA) := PE2.ext E119
  have f127 : Arv Z h119 eA eK (.object "java/lang/Object") (0 : Int32) eL .null := PE3.ext E119
  have f128 : Fld Z h119 aE "java/util/ImmutableCollections$ListN" "allowNulls" "Z" (.int (0 : Int32)) := PE4.ext E119
  have f129 : Old Z Z.heap.size h119 := O0.ext E119
  refine g_vu X119 hx hZ0 hown0 (wd130 hw) (wd131 hw) (wd132 hw) (by decide) (wd133 hw) (wd96 hw) f125 e119 (Con.back (W := 3) (rm_lnsize l Z a0 hw zC SC PC aE SE eA eK eL h119 f129 f125 f126 f127 f128) hZ0 (wd100 hw) (wd99 hw) (by decide) (by decide)) (by rw [hml]; rfl) (lenOf pd5 rfl) rfl (Nat.le_of_eq rfl) (hb hby d_jdk_46m10_6) (q := 9) rfl (by decide) (by decide) ?_
  intro v124 T124 L124 X124 Q124
  obtain ⟨rfl, Nq124, e124⟩ := Q124
  have N124 := Fr.app N0 Nq124
  show Go _ _ _ _ (T124.setTop (mkF m 9 #[.val (.ref aE)] [(.int (0 : Int32)), (.ref aE), (.ref b119), (.ref b119)]))
  have gz132 : Z.heap.size ≤ b119 := Nat.le_trans O0.2.1 (Nat.le_of_eq g119.symm)
  refine g_sp X124 hx hZ0 hown0 (wd134 hw) (wd135 hw) (wd137 hw) rfl (by decide) e124 (Con.back (W := 1) (rm_itinit l Z a0 hw zC SC PC aE SE b119 aE h119 f129 A119 gz132 F119_140 F119_142 F119_144 F119_146) hZ0 (wd137 hw) (wd129 hw) (by decide) (by decide)) (by rw [hml]; rfl) (lenOf pd6 rfl) rfl (Nat.le_of_eq rfl) (hb hby d_jdk_46m10_9) (q := 12) rfl (by decide) (by decide) ?_
  intro v131 T131 L131 X131 Q131
  obtain ⟨rfl, Nq131, K131q, q131_0, q131_1, q131_2⟩ := Q131
  have N131 := Fr.app N124 Nq131
  show Go _ _ _ _ (T131.setTop (mkF m 12 #[.val (.ref aE)] [(.ref b119)]))
  have K133 : Keep h0 h119 [] := (Keep.refl h0 []).ext E119
  have gh134 : h0.size ≤ b119 := Nat.le_trans (Nat.le_refl _) (Nat.le_of_eq g119.symm)
  have K135 : Keep h0 T131.heap [] := K133.trans K131q (allS (Or.inr gh134) all0)
  refine endP X131 hlk (fun h => by rw [hret] at h; cases h) (lastA X131 hx hret rfl rfl rfl (hb hby d_jdk_46m10_12)) ?_ (by decide) (by decide)
  exact ⟨b119, rfl, N131, K135, gh134, q131_0, q131_1, q131_2⟩
theorem d_jdk_53m3_0 : decode jdk_53_method_3_code 0 = .ok (.aload_n 0, 1) := by decide +kernel
theorem d_jdk_53m3_1 : decode jdk_53_method_3_code 1 = .ok (.getfield 17, 3) := by decide +kernel
theorem d_jdk_53m3_4 : decode jdk_53_method_3_code 4 = .ok (.aload_n 0, 1) := by decide +kernel
theorem d_jdk_53m3_5 : decode jdk_53_method_3_code 5 = .ok (.getfield 13, 3) := by decide +kernel
theorem d_jdk_53m3_8 : decode jdk_53_method_3_code 8 = .ok (.if_icmp .eq 7, 3) := by decide +kernel
theorem d_jdk_53m3_15 : decode jdk_53_method_3_code 15 = .ok (.iconst 0, 1) := by decide +kernel
theorem d_jdk_53m3_16 : decode jdk_53_method_3_code 16 = .ok (.ireturn, 1) := by decide +kernel
def Q_hasnext (Z : State) (zC : Int32) (aE : Addr) (a1 : Addr) (h0 : Heap) (v : Option Value) (h : Heap) (L : List Loc) : Prop := v = some (.int (0 : Int32)) ∧ Fr Z.heap.size L ∧ h = h0
set_option maxRecDepth 65536 in
set_option maxHeartbeats 40000000 in
theorem rm_hasnext (l : Launch) (Z : State) (a0 : Array Value) (hw : ∀ d ∈ tables_1, d.before a0 Z = true) (zC : Int32) (SC : Sta Z Z.heap "java/lang/String" "COMPACT_STRINGS" "Z" (.int zC)) (PC : ¬ zC = (0 : Int32)) (aE : Addr) (SE : Sta Z Z.heap "java/util/ImmutableCollections" "EMPTY_LIST" "Ljava/util/ImmutableCollections$ListN;" (.ref aE)) (a1 : Addr) (h0 : Heap) (O0 : Old Z Z.heap.size h0) (P1 : Fld Z h0 a1 "java/util/ImmutableCollections$ListItr" "size" "I" (.int (0 : Int32))) (P2 : Fld Z h0 a1 "java/util/ImmutableCollections$ListItr" "cursor" "I" (.int (0 : Int32))) :
    Con l Z (⟨"java/util/ImmutableCollections$ListItr", "hasNext", "()Z"⟩ : MethodName) jdk_53_method_3_code 1 (some .boolean) ({ frames := 0, cells := 0, slots := 0, locals := 0 } : Room) #[(.ref a1)] h0 (Q_hasnext Z zC aE a1 h0) := by
  refine Con.intro pn6 ?_
  intro p e s m below meth c T0 X0 hx hby hml hown0 hnm hret hlk hZ0 e0
  have N0 := Fr.nil Z.heap.size
  refine castGo (g' := mkF m 0 #[.val (.ref a1)] []) (by first | rfl | (simp [entryFrame, mkF, argsToLocals, Value.category]; done)) ?_
  show Go _ _ _ _ (T0.setTop (mkF m 0 #[.val (.ref a1)] []))
  refine aL X0 hx (hb hby d_jdk_53m3_0) (q := 1) rfl rfl rfl ?_
  refine g_getF X0 hx hZ0 hown0 (host := "") (Or.inl (wd143 hw)) Via.refl P2 e0 (hb hby d_jdk_53m3_1) (q := 4) rfl ?_
  intro T136 X136 e136
  refine aL X136 hx (hb hby d_jdk_53m3_4) (q := 5) rfl rfl rfl ?_
  refine g_getF X136 hx hZ0 hown0 (host := "") (Or.inl (wd141 hw)) Via.refl P1 e136 (hb hby d_jdk_53m3_5) (q := 8) rfl ?_
  intro T137 X137 e137
  refine icY X137 hx (hb hby d_jdk_53m3_8) (q := 15) (by decide) (by decide) (by decide) ?_
  refine cI X137 hx (hb hby d_jdk_53m3_15) (q := 16) rfl (z := (0 : Int32)) rfl ?_
  refine endP X137 hlk (fun h => by rw [hret] at h; cases h) (lastN X137 hx (t := .boolean) (z' := (0 : Int32)) hret (by simp) (by decide) (hb hby d_jdk_53m3_16)) ?_ (by decide) (by decide)
  rw [e137]
  exact ⟨rfl, N0, rfl⟩
theorem d_prog_23m6_0 : decode prog_23_method_6_code 0 = .ok (.aload_n 0, 1) := by decide +kernel
theorem d_prog_23m6_1 : decode prog_23_method_6_code 1 = .ok (.getfield 19, 3) := by decide +kernel
theorem d_prog_23m6_4 : decode prog_23_method_6_code 4 = .ok (.invokeinterface 46 1, 5) := by decide +kernel
theorem wd126 {a0 : Array Value} {Z : State} (hw : ∀ d ∈ tables_1, d.before a0 Z = true) : ((Jvm.Cond.code ({ cls := "java/util/ImmutableCollections$AbstractImmutableList", name := "iterator", desc := "()Ljava/util/Iterator;" } : Jvm.MethodName) jdk_46_method_10_code (1 : Nat) (Option.some (Jvm.ClassFile.FieldType.object "java/util/Iterator"))) : Jvm.Cond).before a0 Z = true := hw _ (List.mem_of_getElem? (i := 126) rfl)
theorem wd125 {a0 : Array Value} {Z : State} (hw : ∀ d ∈ tables_1, d.before a0 Z = true) : ((Jvm.Cond.initialized "java/util/ImmutableCollections$AbstractImmutableList") : Jvm.Cond).before a0 Z = true := hw _ (List.mem_of_getElem? (i := 125) rfl)
theorem pd7 : parseMethodDescriptor "()Ljava/util/Iterator;" = some ⟨[], some (.object "java/util/Iterator")⟩ := by decide +kernel
theorem wd118 {a0 : Array Value} {Z : State} (hw : ∀ d ∈ tables_1, d.before a0 Z = true) : ((Jvm.Cond.methodLink "com/example/quaymark/quaymark/Review" (46 : Nat) ({ cls := "java/util/List", name := "iterator", desc := "()Ljava/util/Iterator;" } : Jvm.MethodName)) : Jvm.Cond).before a0 Z = true := hw _ (List.mem_of_getElem? (i := 118) rfl)
theorem wd119 {a0 : Array Value} {Z : State} (hw : ∀ d ∈ tables_1, d.before a0 Z = true) : ((Jvm.Cond.declares ({ cls := "java/util/List", name := "iterator", desc := "()Ljava/util/Iterator;" } : Jvm.MethodName)) : Jvm.Cond).before a0 Z = true := hw _ (List.mem_of_getElem? (i := 119) rfl)
theorem wd120 {a0 : Array Value} {Z : State} (hw : ∀ d ∈ tables_1, d.before a0 Z = true) : ((Jvm.Cond.interfaceMethod "java/util/List" "java/util/List" "iterator" "()Ljava/util/Iterator;") : Jvm.Cond).before a0 Z = true := hw _ (List.mem_of_getElem? (i := 120) rfl)
theorem wd121 {a0 : Array Value} {Z : State} (hw : ∀ d ∈ tables_1, d.before a0 Z = true) : ((Jvm.Cond.selects "java/util/ImmutableCollections$ListN" ({ cls := "java/util/List", name := "iterator", desc := "()Ljava/util/Iterator;" } : Jvm.MethodName) ({ cls := "java/util/ImmutableCollections$AbstractImmutableList", name := "iterator", desc := "()Ljava/util/Iterator;" } : Jvm.MethodName)) : Jvm.Cond).before a0 Z = true := hw _ (List.mem_of_getElem? (i := 121) rfl)
theorem wd122 {a0 : Array Value} {Z : State} (hw : ∀ d ∈ tables_1, d.before a0 Z = true) : ((Jvm.Cond.instanceMethod ({ cls := "java/util/ImmutableCollections$AbstractImmutableList", name := "iterator", desc := "()Ljava/util/Iterator;" } : Jvm.MethodName)) : Jvm.Cond).before a0 Z = true := hw _ (List.mem_of_getElem? (i := 122) rfl)
theorem wd123 {a0 : Array Value} {Z : State} (hw : ∀ d ∈ tables_1, d.before a0 Z = true) : ((Jvm.Cond.publicMethod ({ cls := "java/util/ImmutableCollections$AbstractImmutableList", name := "iterator", desc := "()Ljava/util/Iterator;" } : Jvm.MethodName)) : Jvm.Cond).before a0 Z = true := hw _ (List.mem_of_getElem? (i := 123) rfl)
theorem wd124 {a0 : Array Value} {Z : State} (hw : ∀ d ∈ tables_1, d.before a0 Z = true) : ((Jvm.Cond.unhidden "java/util/ImmutableCollections$ListN" "iterator" "()Ljava/util/Iterator;") : Jvm.Cond).before a0 Z = true := hw _ (List.mem_of_getElem? (i := 124) rfl)
theorem d_prog_23m6_9 : decode prog_23_method_6_code 9 = .ok (.astore_n 2, 1) := by decide +kernel
theorem d_prog_23m6_10 : decode prog_23_method_6_code 10 = .ok (.aload_n 2, 1) := by decide +kernel
theorem d_prog_23m6_11 : decode prog_23_method_6_code 11 = .ok (.invokeinterface 50 1, 5) := by decide +kernel
theorem wd155 {a0 : Array Value} {Z : State} (hw : ∀ d ∈ tables_1, d.before a0 Z = true) : ((Jvm.Cond.code ({ cls := "java/util/ImmutableCollections$ListItr", name := "hasNext", desc := "()Z" } : Jvm.MethodName) jdk_53_method_3_code (1 : Nat) (Option.some Jvm.ClassFile.FieldType.boolean)) : Jvm.Cond).before a0 Z = true := hw _ (List.mem_of_getElem? (i := 155) rfl)
theorem pd8 : parseMethodDescriptor "()Z" = some ⟨[], some .boolean⟩ := by decide +kernel
theorem wd147 {a0 : Array Value} {Z : State} (hw : ∀ d ∈ tables_1, d.before a0 Z = true) : ((Jvm.Cond.methodLink "com/example/quaymark/quaymark/Review" (50 : Nat) ({ cls := "java/util/Iterator", name := "hasNext", desc := "()Z" } : Jvm.MethodName)) : Jvm.Cond).before a0 Z = true := hw _ (List.mem_of_getElem? (i := 147) rfl)
theorem wd148 {a0 : Array Value} {Z : State} (hw : ∀ d ∈ tables_1, d.before a0 Z = true) : ((Jvm.Cond.declares ({ cls := "java/util/Iterator", name := "hasNext", desc := "()Z" } : Jvm.MethodName)) : Jvm.Cond).before a0 Z = true := hw _ (List.mem_of_getElem? (i := 148) rfl)
theorem wd149 {a0 : Array Value} {Z : State} (hw : ∀ d ∈ tables_1, d.before a0 Z = true) : ((Jvm.Cond.interfaceMethod "java/util/Iterator" "java/util/Iterator" "hasNext" "()Z") : Jvm.Cond).before a0 Z = true := hw _ (List.mem_of_getElem? (i := 149) rfl)
theorem wd150 {a0 : Array Value} {Z : State} (hw : ∀ d ∈ tables_1, d.before a0 Z = true) : ((Jvm.Cond.selects "java/util/ImmutableCollections$ListItr" ({ cls := "java/util/Iterator", name := "hasNext", desc := "()Z" } : Jvm.MethodName) ({ cls := "java/util/ImmutableCollections$ListItr", name := "hasNext", desc := "()Z" } : Jvm.MethodName)) : Jvm.Cond).before a0 Z = true := hw _ (List.mem_of_getElem? (i := 150) rfl)
theorem wd151 {a0 : Array Value} {Z : State} (hw : ∀ d ∈ tables_1, d.before a0 Z = true) : ((Jvm.Cond.instanceMethod ({ cls := "java/util/ImmutableCollections$ListItr", name := "hasNext", desc := "()Z" } : Jvm.MethodName)) : Jvm.Cond).before a0 Z = true := hw _ (List.mem_of_getElem? (i := 151) rfl)
theorem wd152 {a0 : Array Value} {Z : State} (hw : ∀ d ∈ tables_1, d.before a0 Z = true) : ((Jvm.Cond.publicMethod ({ cls := "java/util/ImmutableCollections$ListItr", name := "hasNext", desc := "()Z" } : Jvm.MethodName)) : Jvm.Cond).before a0 Z = true := hw _ (List.mem_of_getElem? (i := 152) rfl)
theorem wd153 {a0 : Array Value} {Z : State} (hw : ∀ d ∈ tables_1, d.before a0 Z = true) : ((Jvm.Cond.unhidden "java/util/ImmutableCollections$ListItr" "hasNext" "()Z") : Jvm.Cond).before a0 Z = true := hw _ (List.mem_of_getElem? (i := 153) rfl)
theorem wd154 {a0 : Array Value} {Z : State} (hw : ∀ d ∈ tables_1, d.before a0 Z = true) : ((Jvm.Cond.castable "java/util/ImmutableCollections$ListItr" "java/util/Iterator") : Jvm.Cond).before a0 Z = true := hw _ (List.mem_of_getElem? (i := 154) rfl)
theorem d_prog_23m6_16 : decode prog_23_method_6_code 16 = .ok (.ifCond .eq 26, 3) := by decide +kernel
theorem d_prog_23m6_42 : decode prog_23_method_6_code 42 = .ok (.aconst_null, 1) := by decide +kernel
theorem d_prog_23m6_43 : decode prog_23_method_6_code 43 = .ok (.areturn, 1) := by decide +kernel
def Q_leftoutI (Z : State) (zC : Int32) (aE : Addr) (a1 : Addr) (p1 : Int32) (eA : Addr) (eK : ClassId) (eL : List Value) (h0 : Heap) (v : Option Value) (h : Heap) (L : List Loc) : Prop := v = some .null ∧ Fr Z.heap.size L ∧ Keep h0 h []
set_option maxRecDepth 65536 in
set_option maxHeartbeats 40000000 in
theorem rm_leftoutI (l : Launch) (Z : State) (a0 : Array Value) (hw : ∀ d ∈ tables_1, d.before a0 Z = true) (zC : Int32) (SC : Sta Z Z.heap "java/lang/String" "COMPACT_STRINGS" "Z" (.int zC)) (PC : ¬ zC = (0 : Int32)) (aE : Addr) (SE : Sta Z Z.heap "java/util/ImmutableCollections" "EMPTY_LIST" "Ljava/util/ImmutableCollections$ListN;" (.ref aE)) (a1 : Addr) (p1 : Int32) (eA : Addr) (eK : ClassId) (eL : List Value) (h0 : Heap) (O0 : Old Z Z.heap.size h0) (PE1 : Exa Z h0 aE "java/util/ImmutableCollections$ListN") (PE2 : Fld Z h0 aE "java/util/ImmutableCollections$ListN" "elements" "[Ljava/lang/Object;" (.ref eA)) (PE3 : Arv Z h0 eA eK (.object "java/lang/Object") (0 : Int32) eL .null) (PE4 : Fld Z h0 aE "java/util/ImmutableCollections$ListN" "allowNulls" "Z" (.int (0 : Int32))) (P1 : Fld Z h0 a1 "com/example/quaymark/quaymark/Review" "leftOut" "Ljava/util/List;" (.ref aE)) :
    Con l Z (⟨"com/example/quaymark/quaymark/Review", "leftOut", "(I)Lcom/example/quaymark/quaymark/Review$LeftOut;"⟩ : MethodName) prog_23_method_6_code 4 (some (.object "com/example/quaymark/quaymark/Review$LeftOut")) ({ frames := 3, cells := 1, slots := 4, locals := 39 } : Room) #[(.ref a1), (.int p1)] h0 (Q_leftoutI Z zC aE a1 p1 eA eK eL h0) := by
  refine Con.intro pn4 ?_
  intro p e s m below meth c T0 X0 hx hby hml hown0 hnm hret hlk hZ0 e0
  have N0 := Fr.nil Z.heap.size
  refine castGo (g' := mkF m 0 #[.val (.ref a1), .val (.int p1), .unset, .unset] []) (by first | rfl | (simp [entryFrame, mkF, argsToLocals, Value.category]; done)) ?_
  show Go _ _ _ _ (T0.setTop (mkF m 0 #[.val (.ref a1), .val (.int p1), .unset, .unset] []))
  refine aL X0 hx (hb hby d_prog_23m6_0) (q := 1) rfl rfl rfl ?_
  refine g_getF X0 hx hZ0 hown0 (host := "") (Or.inl (wd71 hw)) Via.refl P1 e0 (hb hby d_prog_23m6_1) (q := 4) rfl ?_
  intro T138 X138 e138
  refine g_if X138 hx hZ0 hown0 (wd118 hw) (wd119 hw) (wd120 hw) rfl (wd121 hw) (wd122 hw) (wd123 hw) (wd124 hw) (wd68 hw) (by decide) PE1 e138 (Con.back (W := 0) (rm_iter l Z a0 hw zC SC PC aE SE eA eK eL h0 O0 PE1 PE2 PE3 PE4) hZ0 (wd126 hw) (wd125 hw) (by decide) (by decide)) (by rw [hml]; rfl) (lenOf pd7 rfl) rfl (Nat.le_of_eq rfl) (hb hby d_prog_23m6_4) (q := 9) rfl (by decide) (by decide) ?_
  intro v139 T139 L139 X139 Q139
  obtain ⟨r_139, rfl, Nq139, K139q, q139_0, q139_1, q139_2, q139_3⟩ := Q139
  have N139 := Fr.app N0 Nq139
  show Go _ _ _ _ (T139.setTop (mkF m 9 #[.val (.ref a1), .val (.int p1), .unset, .unset] [(.ref r_139)]))
  refine sA X139 hx (hb hby d_prog_23m6_9) (q := 10) rfl rfl (Ls' := #[.val (.ref a1), .val (.int p1), .val (.ref r_139), .unset]) rfl ?_
  refine aL X139 hx (hb hby d_prog_23m6_10) (q := 11) rfl rfl rfl ?_
  have f141 : Old Z Z.heap.size T139.heap := O0.keep K139q all0
  refine g_if X139 hx hZ0 hown0 (wd147 hw) (wd148 hw) (wd149 hw) rfl (wd150 hw) (wd151 hw) (wd152 hw) (wd153 hw) (wd154 hw) (by decide) q139_1 rfl (Con.back (W := 0) (rm_hasnext l Z a0 hw zC SC PC aE SE r_139 T139.heap f141 q139_2 q139_3) hZ0 (wd155 hw) (wd129 hw) (by decide) (by decide)) (by rw [hml]; rfl) (lenOf pd8 rfl) rfl (Nat.le_of_eq rfl) (hb hby d_prog_23m6_11) (q := 16) rfl (by decide) (by decide) ?_
  intro v140 T140 L140 X140 Q140
  obtain ⟨rfl, Nq140, e140⟩ := Q140
  have N140 := Fr.app N139 Nq140
  show Go _ _ _ _ (T140.setTop (mkF m 16 #[.val (.ref a1), .val (.int p1), .val (.ref r_139), .unset] [(.int (0 : Int32))]))
  refine ifY X140 hx (hb hby d_prog_23m6_16) (q := 42) (by decide) (by decide) (by decide) ?_
  refine cN X140 hx (hb hby d_prog_23m6_42) (q := 43) rfl ?_
  have K142 : Keep h0 T139.heap [] := (Keep.refl h0 []).trans K139q all0
  refine endP X140 hlk (fun h => by rw [hret] at h; cases h) (lastA X140 hx hret rfl rfl rfl (hb hby d_prog_23m6_43)) ?_ (by decide) (by decide)
  rw [e140]
  exact ⟨rfl, N140, K142⟩
theorem own_n (x : Int32) : x &&& 3 = 0 ∨ x &&& 3 = 1 ∨ x &&& 3 = 2 ∨ x &&& 3 = 3 := by
  have h := c_mask x 3 2 (by decide) (by decide)
  rw [show (2 ^ 2 : Nat) = 4 from by decide] at h
  have c0 : (0 : Int32).toInt = 0 := by decide
  have c1 : (1 : Int32).toInt = 1 := by decide
  have c2 : (2 : Int32).toInt = 2 := by decide
  have c3 : (3 : Int32).toInt = 3 := by decide
  simp only [← Int32.toInt_inj, c0, c1, c2, c3]
  omega
theorem wd0 {a0 : Array Value} {Z : State} (hw : ∀ d ∈ tables_1, d.before a0 Z = true) : ((Jvm.Cond.arrayClass Jvm.ClassFile.FieldType.char) : Jvm.Cond).before a0 Z = true := hw _ (List.mem_of_getElem? (i := 0) rfl)
theorem wd1 {a0 : Array Value} {Z : State} (hw : ∀ d ∈ tables_1, d.before a0 Z = true) : ((Jvm.Cond.classLink "com/example/quaymark/quaymark/ReviewSubmittedPinLaw" (7 : Nat) "java/lang/String") : Jvm.Cond).before a0 Z = true := hw _ (List.mem_of_getElem? (i := 1) rfl)
theorem wd6 {a0 : Array Value} {Z : State} (hw : ∀ d ∈ tables_1, d.before a0 Z = true) : ((Jvm.Cond.code ({ cls := "java/lang/String", name := "<init>", desc := "([C)V" } : Jvm.MethodName) jdk_42_method_3_code (2 : Nat) (Option.none : Option Jvm.ClassFile.FieldType)) : Jvm.Cond).before a0 Z = true := hw _ (List.mem_of_getElem? (i := 6) rfl)
theorem pd9 : parseMethodDescriptor "([C)V" = some ⟨[(.array .char)], none⟩ := by decide +kernel
theorem wd4 {a0 : Array Value} {Z : State} (hw : ∀ d ∈ tables_1, d.before a0 Z = true) : ((Jvm.Cond.methodLink "com/example/quaymark/quaymark/ReviewSubmittedPinLaw" (9 : Nat) ({ cls := "java/lang/String", name := "<init>", desc := "([C)V" } : Jvm.MethodName)) : Jvm.Cond).before a0 Z = true := hw _ (List.mem_of_getElem? (i := 4) rfl)
theorem wd5 {a0 : Array Value} {Z : State} (hw : ∀ d ∈ tables_1, d.before a0 Z = true) : ((Jvm.Cond.instanceMethod ({ cls := "java/lang/String", name := "<init>", desc := "([C)V" } : Jvm.MethodName)) : Jvm.Cond).before a0 Z = true := hw _ (List.mem_of_getElem? (i := 5) rfl)
theorem wd33 {a0 : Array Value} {Z : State} (hw : ∀ d ∈ tables_1, d.before a0 Z = true) : ((Jvm.Cond.code ({ cls := "com/example/quaymark/quaymark/Review", name := "submitted", desc := "(Ljava/lang/String;)Lcom/example/quaymark/quaymark/Review;" } : Jvm.MethodName) prog_23_method_2_code (1 : Nat) (Option.some (Jvm.ClassFile.FieldType.object "com/example/quaymark/quaymark/Review"))) : Jvm.Cond).before a0 Z = true := hw _ (List.mem_of_getElem? (i := 33) rfl)
theorem pd10 : parseMethodDescriptor "(Ljava/lang/String;)Lcom/example/quaymark/quaymark/Review;" = some ⟨[(.object "java/lang/String")], some (.object "com/example/quaymark/quaymark/Review")⟩ := by decide +kernel
theorem wd30 {a0 : Array Value} {Z : State} (hw : ∀ d ∈ tables_1, d.before a0 Z = true) : ((Jvm.Cond.methodLink "com/example/quaymark/quaymark/ReviewSubmittedPinLaw" (12 : Nat) ({ cls := "com/example/quaymark/quaymark/Review", name := "submitted", desc := "(Ljava/lang/String;)Lcom/example/quaymark/quaymark/Review;" } : Jvm.MethodName)) : Jvm.Cond).before a0 Z = true := hw _ (List.mem_of_getElem? (i := 30) rfl)
theorem wd31 {a0 : Array Value} {Z : State} (hw : ∀ d ∈ tables_1, d.before a0 Z = true) : ((Jvm.Cond.static ({ cls := "com/example/quaymark/quaymark/Review", name := "submitted", desc := "(Ljava/lang/String;)Lcom/example/quaymark/quaymark/Review;" } : Jvm.MethodName)) : Jvm.Cond).before a0 Z = true := hw _ (List.mem_of_getElem? (i := 31) rfl)
theorem wd81 {a0 : Array Value} {Z : State} (hw : ∀ d ∈ tables_1, d.before a0 Z = true) : ((Jvm.Cond.code ({ cls := "com/example/quaymark/quaymark/Review", name := "submittedBy", desc := "()Ljava/lang/String;" } : Jvm.MethodName) prog_23_method_12_code (1 : Nat) (Option.some (Jvm.ClassFile.FieldType.object "java/lang/String"))) : Jvm.Cond).before a0 Z = true := hw _ (List.mem_of_getElem? (i := 81) rfl)
theorem pd11 : parseMethodDescriptor "()Ljava/lang/String;" = some ⟨[], some (.object "java/lang/String")⟩ := by decide +kernel
theorem wd80 {a0 : Array Value} {Z : State} (hw : ∀ d ∈ tables_1, d.before a0 Z = true) : ((Jvm.Cond.selects "com/example/quaymark/quaymark/Review" ({ cls := "com/example/quaymark/quaymark/Review", name := "submittedBy", desc := "()Ljava/lang/String;" } : Jvm.MethodName) ({ cls := "com/example/quaymark/quaymark/Review", name := "submittedBy", desc := "()Ljava/lang/String;" } : Jvm.MethodName)) : Jvm.Cond).before a0 Z = true := hw _ (List.mem_of_getElem? (i := 80) rfl)
theorem wd77 {a0 : Array Value} {Z : State} (hw : ∀ d ∈ tables_1, d.before a0 Z = true) : ((Jvm.Cond.methodLink "com/example/quaymark/quaymark/ReviewSubmittedPinLaw" (18 : Nat) ({ cls := "com/example/quaymark/quaymark/Review", name := "submittedBy", desc := "()Ljava/lang/String;" } : Jvm.MethodName)) : Jvm.Cond).before a0 Z = true := hw _ (List.mem_of_getElem? (i := 77) rfl)
theorem wd78 {a0 : Array Value} {Z : State} (hw : ∀ d ∈ tables_1, d.before a0 Z = true) : ((Jvm.Cond.declares ({ cls := "com/example/quaymark/quaymark/Review", name := "submittedBy", desc := "()Ljava/lang/String;" } : Jvm.MethodName)) : Jvm.Cond).before a0 Z = true := hw _ (List.mem_of_getElem? (i := 78) rfl)
theorem wd79 {a0 : Array Value} {Z : State} (hw : ∀ d ∈ tables_1, d.before a0 Z = true) : ((Jvm.Cond.instanceMethod ({ cls := "com/example/quaymark/quaymark/Review", name := "submittedBy", desc := "()Ljava/lang/String;" } : Jvm.MethodName)) : Jvm.Cond).before a0 Z = true := hw _ (List.mem_of_getElem? (i := 79) rfl)
theorem wd86 {a0 : Array Value} {Z : State} (hw : ∀ d ∈ tables_1, d.before a0 Z = true) : ((Jvm.Cond.code ({ cls := "java/lang/String", name := "equals", desc := "(Ljava/lang/Object;)Z" } : Jvm.MethodName) jdk_42_method_66_code (3 : Nat) (Option.some Jvm.ClassFile.FieldType.boolean)) : Jvm.Cond).before a0 Z = true := hw _ (List.mem_of_getElem? (i := 86) rfl)
theorem pd12 : parseMethodDescriptor "(Ljava/lang/Object;)Z" = some ⟨[(.object "java/lang/Object")], some .boolean⟩ := by decide +kernel
theorem wd85 {a0 : Array Value} {Z : State} (hw : ∀ d ∈ tables_1, d.before a0 Z = true) : ((Jvm.Cond.selects "java/lang/String" ({ cls := "java/lang/String", name := "equals", desc := "(Ljava/lang/Object;)Z" } : Jvm.MethodName) ({ cls := "java/lang/String", name := "equals", desc := "(Ljava/lang/Object;)Z" } : Jvm.MethodName)) : Jvm.Cond).before a0 Z = true := hw _ (List.mem_of_getElem? (i := 85) rfl)
theorem wd82 {a0 : Array Value} {Z : State} (hw : ∀ d ∈ tables_1, d.before a0 Z = true) : ((Jvm.Cond.methodLink "com/example/quaymark/quaymark/ReviewSubmittedPinLaw" (22 : Nat) ({ cls := "java/lang/String", name := "equals", desc := "(Ljava/lang/Object;)Z" } : Jvm.MethodName)) : Jvm.Cond).before a0 Z = true := hw _ (List.mem_of_getElem? (i := 82) rfl)
theorem wd83 {a0 : Array Value} {Z : State} (hw : ∀ d ∈ tables_1, d.before a0 Z = true) : ((Jvm.Cond.declares ({ cls := "java/lang/String", name := "equals", desc := "(Ljava/lang/Object;)Z" } : Jvm.MethodName)) : Jvm.Cond).before a0 Z = true := hw _ (List.mem_of_getElem? (i := 83) rfl)
theorem wd84 {a0 : Array Value} {Z : State} (hw : ∀ d ∈ tables_1, d.before a0 Z = true) : ((Jvm.Cond.instanceMethod ({ cls := "java/lang/String", name := "equals", desc := "(Ljava/lang/Object;)Z" } : Jvm.MethodName)) : Jvm.Cond).before a0 Z = true := hw _ (List.mem_of_getElem? (i := 84) rfl)
theorem wd91 {a0 : Array Value} {Z : State} (hw : ∀ d ∈ tables_1, d.before a0 Z = true) : ((Jvm.Cond.code ({ cls := "com/example/quaymark/quaymark/Review", name := "leftOut", desc := "()Ljava/util/List;" } : Jvm.MethodName) prog_23_method_13_code (1 : Nat) (Option.some (Jvm.ClassFile.FieldType.object "java/util/List"))) : Jvm.Cond).before a0 Z = true := hw _ (List.mem_of_getElem? (i := 91) rfl)
theorem wd90 {a0 : Array Value} {Z : State} (hw : ∀ d ∈ tables_1, d.before a0 Z = true) : ((Jvm.Cond.selects "com/example/quaymark/quaymark/Review" ({ cls := "com/example/quaymark/quaymark/Review", name := "leftOut", desc := "()Ljava/util/List;" } : Jvm.MethodName) ({ cls := "com/example/quaymark/quaymark/Review", name := "leftOut", desc := "()Ljava/util/List;" } : Jvm.MethodName)) : Jvm.Cond).before a0 Z = true := hw _ (List.mem_of_getElem? (i := 90) rfl)
theorem wd87 {a0 : Array Value} {Z : State} (hw : ∀ d ∈ tables_1, d.before a0 Z = true) : ((Jvm.Cond.methodLink "com/example/quaymark/quaymark/ReviewSubmittedPinLaw" (26 : Nat) ({ cls := "com/example/quaymark/quaymark/Review", name := "leftOut", desc := "()Ljava/util/List;" } : Jvm.MethodName)) : Jvm.Cond).before a0 Z = true := hw _ (List.mem_of_getElem? (i := 87) rfl)
theorem wd88 {a0 : Array Value} {Z : State} (hw : ∀ d ∈ tables_1, d.before a0 Z = true) : ((Jvm.Cond.declares ({ cls := "com/example/quaymark/quaymark/Review", name := "leftOut", desc := "()Ljava/util/List;" } : Jvm.MethodName)) : Jvm.Cond).before a0 Z = true := hw _ (List.mem_of_getElem? (i := 88) rfl)
theorem wd89 {a0 : Array Value} {Z : State} (hw : ∀ d ∈ tables_1, d.before a0 Z = true) : ((Jvm.Cond.instanceMethod ({ cls := "com/example/quaymark/quaymark/Review", name := "leftOut", desc := "()Ljava/util/List;" } : Jvm.MethodName)) : Jvm.Cond).before a0 Z = true := hw _ (List.mem_of_getElem? (i := 89) rfl)
theorem wd92 {a0 : Array Value} {Z : State} (hw : ∀ d ∈ tables_1, d.before a0 Z = true) : ((Jvm.Cond.methodLink "com/example/quaymark/quaymark/ReviewSubmittedPinLaw" (30 : Nat) ({ cls := "java/util/List", name := "size", desc := "()I" } : Jvm.MethodName)) : Jvm.Cond).before a0 Z = true := hw _ (List.mem_of_getElem? (i := 92) rfl)
theorem wd93 {a0 : Array Value} {Z : State} (hw : ∀ d ∈ tables_1, d.before a0 Z = true) : ((Jvm.Cond.declares ({ cls := "java/util/List", name := "size", desc := "()I" } : Jvm.MethodName)) : Jvm.Cond).before a0 Z = true := hw _ (List.mem_of_getElem? (i := 93) rfl)
theorem wd94 {a0 : Array Value} {Z : State} (hw : ∀ d ∈ tables_1, d.before a0 Z = true) : ((Jvm.Cond.interfaceMethod "java/util/List" "java/util/List" "size" "()I") : Jvm.Cond).before a0 Z = true := hw _ (List.mem_of_getElem? (i := 94) rfl)
theorem wd95 {a0 : Array Value} {Z : State} (hw : ∀ d ∈ tables_1, d.before a0 Z = true) : ((Jvm.Cond.selects "java/util/ImmutableCollections$ListN" ({ cls := "java/util/List", name := "size", desc := "()I" } : Jvm.MethodName) ({ cls := "java/util/ImmutableCollections$ListN", name := "size", desc := "()I" } : Jvm.MethodName)) : Jvm.Cond).before a0 Z = true := hw _ (List.mem_of_getElem? (i := 95) rfl)
theorem wd97 {a0 : Array Value} {Z : State} (hw : ∀ d ∈ tables_1, d.before a0 Z = true) : ((Jvm.Cond.publicMethod ({ cls := "java/util/ImmutableCollections$ListN", name := "size", desc := "()I" } : Jvm.MethodName)) : Jvm.Cond).before a0 Z = true := hw _ (List.mem_of_getElem? (i := 97) rfl)
theorem wd98 {a0 : Array Value} {Z : State} (hw : ∀ d ∈ tables_1, d.before a0 Z = true) : ((Jvm.Cond.unhidden "java/util/ImmutableCollections$ListN" "size" "()I") : Jvm.Cond).before a0 Z = true := hw _ (List.mem_of_getElem? (i := 98) rfl)
theorem wd107 {a0 : Array Value} {Z : State} (hw : ∀ d ∈ tables_1, d.before a0 Z = true) : ((Jvm.Cond.code ({ cls := "com/example/quaymark/quaymark/Review", name := "signedOffBy", desc := "()Ljava/lang/String;" } : Jvm.MethodName) prog_23_method_14_code (1 : Nat) (Option.some (Jvm.ClassFile.FieldType.object "java/lang/String"))) : Jvm.Cond).before a0 Z = true := hw _ (List.mem_of_getElem? (i := 107) rfl)
theorem wd106 {a0 : Array Value} {Z : State} (hw : ∀ d ∈ tables_1, d.before a0 Z = true) : ((Jvm.Cond.selects "com/example/quaymark/quaymark/Review" ({ cls := "com/example/quaymark/quaymark/Review", name := "signedOffBy", desc := "()Ljava/lang/String;" } : Jvm.MethodName) ({ cls := "com/example/quaymark/quaymark/Review", name := "signedOffBy", desc := "()Ljava/lang/String;" } : Jvm.MethodName)) : Jvm.Cond).before a0 Z = true := hw _ (List.mem_of_getElem? (i := 106) rfl)
theorem wd103 {a0 : Array Value} {Z : State} (hw : ∀ d ∈ tables_1, d.before a0 Z = true) : ((Jvm.Cond.methodLink "com/example/quaymark/quaymark/ReviewSubmittedPinLaw" (36 : Nat) ({ cls := "com/example/quaymark/quaymark/Review", name := "signedOffBy", desc := "()Ljava/lang/String;" } : Jvm.MethodName)) : Jvm.Cond).before a0 Z = true := hw _ (List.mem_of_getElem? (i := 103) rfl)
theorem wd104 {a0 : Array Value} {Z : State} (hw : ∀ d ∈ tables_1, d.before a0 Z = true) : ((Jvm.Cond.declares ({ cls := "com/example/quaymark/quaymark/Review", name := "signedOffBy", desc := "()Ljava/lang/String;" } : Jvm.MethodName)) : Jvm.Cond).before a0 Z = true := hw _ (List.mem_of_getElem? (i := 104) rfl)
theorem wd105 {a0 : Array Value} {Z : State} (hw : ∀ d ∈ tables_1, d.before a0 Z = true) : ((Jvm.Cond.instanceMethod ({ cls := "com/example/quaymark/quaymark/Review", name := "signedOffBy", desc := "()Ljava/lang/String;" } : Jvm.MethodName)) : Jvm.Cond).before a0 Z = true := hw _ (List.mem_of_getElem? (i := 105) rfl)
theorem wd112 {a0 : Array Value} {Z : State} (hw : ∀ d ∈ tables_1, d.before a0 Z = true) : ((Jvm.Cond.code ({ cls := "com/example/quaymark/quaymark/Review", name := "withdrawn", desc := "()Lcom/example/quaymark/quaymark/Review$Withdrawal;" } : Jvm.MethodName) prog_23_method_15_code (1 : Nat) (Option.some (Jvm.ClassFile.FieldType.object "com/example/quaymark/quaymark/Review$Withdrawal"))) : Jvm.Cond).before a0 Z = true := hw _ (List.mem_of_getElem? (i := 112) rfl)
theorem pd13 : parseMethodDescriptor "()Lcom/example/quaymark/quaymark/Review$Withdrawal;" = some ⟨[], some (.object "com/example/quaymark/quaymark/Review$Withdrawal")⟩ := by decide +kernel
theorem wd111 {a0 : Array Value} {Z : State} (hw : ∀ d ∈ tables_1, d.before a0 Z = true) : ((Jvm.Cond.selects "com/example/quaymark/quaymark/Review" ({ cls := "com/example/quaymark/quaymark/Review", name := "withdrawn", desc := "()Lcom/example/quaymark/quaymark/Review$Withdrawal;" } : Jvm.MethodName) ({ cls := "com/example/quaymark/quaymark/Review", name := "withdrawn", desc := "()Lcom/example/quaymark/quaymark/Review$Withdrawal;" } : Jvm.MethodName)) : Jvm.Cond).before a0 Z = true := hw _ (List.mem_of_getElem? (i := 111) rfl)
theorem wd108 {a0 : Array Value} {Z : State} (hw : ∀ d ∈ tables_1, d.before a0 Z = true) : ((Jvm.Cond.methodLink "com/example/quaymark/quaymark/ReviewSubmittedPinLaw" (39 : Nat) ({ cls := "com/example/quaymark/quaymark/Review", name := "withdrawn", desc := "()Lcom/example/quaymark/quaymark/Review$Withdrawal;" } : Jvm.MethodName)) : Jvm.Cond).before a0 Z = true := hw _ (List.mem_of_getElem? (i := 108) rfl)
theorem wd109 {a0 : Array Value} {Z : State} (hw : ∀ d ∈ tables_1, d.before a0 Z = true) : ((Jvm.Cond.declares ({ cls := "com/example/quaymark/quaymark/Review", name := "withdrawn", desc := "()Lcom/example/quaymark/quaymark/Review$Withdrawal;" } : Jvm.MethodName)) : Jvm.Cond).before a0 Z = true := hw _ (List.mem_of_getElem? (i := 109) rfl)
theorem wd110 {a0 : Array Value} {Z : State} (hw : ∀ d ∈ tables_1, d.before a0 Z = true) : ((Jvm.Cond.instanceMethod ({ cls := "com/example/quaymark/quaymark/Review", name := "withdrawn", desc := "()Lcom/example/quaymark/quaymark/Review$Withdrawal;" } : Jvm.MethodName)) : Jvm.Cond).before a0 Z = true := hw _ (List.mem_of_getElem? (i := 110) rfl)
theorem wd117 {a0 : Array Value} {Z : State} (hw : ∀ d ∈ tables_1, d.before a0 Z = true) : ((Jvm.Cond.code ({ cls := "com/example/quaymark/quaymark/Review", name := "leftOut", desc := "(I)Lcom/example/quaymark/quaymark/Review$LeftOut;" } : Jvm.MethodName) prog_23_method_6_code (4 : Nat) (Option.some (Jvm.ClassFile.FieldType.object "com/example/quaymark/quaymark/Review$LeftOut"))) : Jvm.Cond).before a0 Z = true := hw _ (List.mem_of_getElem? (i := 117) rfl)
theorem pd14 : parseMethodDescriptor "(I)Lcom/example/quaymark/quaymark/Review$LeftOut;" = some ⟨[.int], some (.object "com/example/quaymark/quaymark/Review$LeftOut")⟩ := by decide +kernel
theorem wd116 {a0 : Array Value} {Z : State} (hw : ∀ d ∈ tables_1, d.before a0 Z = true) : ((Jvm.Cond.selects "com/example/quaymark/quaymark/Review" ({ cls := "com/example/quaymark/quaymark/Review", name := "leftOut", desc := "(I)Lcom/example/quaymark/quaymark/Review$LeftOut;" } : Jvm.MethodName) ({ cls := "com/example/quaymark/quaymark/Review", name := "leftOut", desc := "(I)Lcom/example/quaymark/quaymark/Review$LeftOut;" } : Jvm.MethodName)) : Jvm.Cond).before a0 Z = true := hw _ (List.mem_of_getElem? (i := 116) rfl)
theorem wd113 {a0 : Array Value} {Z : State} (hw : ∀ d ∈ tables_1, d.before a0 Z = true) : ((Jvm.Cond.methodLink "com/example/quaymark/quaymark/ReviewSubmittedPinLaw" (43 : Nat) ({ cls := "com/example/quaymark/quaymark/Review", name := "leftOut", desc := "(I)Lcom/example/quaymark/quaymark/Review$LeftOut;" } : Jvm.MethodName)) : Jvm.Cond).before a0 Z = true := hw _ (List.mem_of_getElem? (i := 113) rfl)
theorem wd114 {a0 : Array Value} {Z : State} (hw : ∀ d ∈ tables_1, d.before a0 Z = true) : ((Jvm.Cond.declares ({ cls := "com/example/quaymark/quaymark/Review", name := "leftOut", desc := "(I)Lcom/example/quaymark/quaymark/Review$LeftOut;" } : Jvm.MethodName)) : Jvm.Cond).before a0 Z = true := hw _ (List.mem_of_getElem? (i := 114) rfl)
theorem wd115 {a0 : Array Value} {Z : State} (hw : ∀ d ∈ tables_1, d.before a0 Z = true) : ((Jvm.Cond.instanceMethod ({ cls := "com/example/quaymark/quaymark/Review", name := "leftOut", desc := "(I)Lcom/example/quaymark/quaymark/Review$LeftOut;" } : Jvm.MethodName)) : Jvm.Cond).before a0 Z = true := hw _ (List.mem_of_getElem? (i := 115) rfl)
def Q_law (Z : State) (zC : Int32) (aE : Addr) (p0 : Int32) (p1 : Int32) (p2 : Int32) (p3 : Int32) (p4 : Int32) (eA : Addr) (eK : ClassId) (eL : List Value) (h0 : Heap) (v : Option Value) (h : Heap) (L : List Loc) : Prop := v = some (.int (1 : Int32)) ∧ Fr Z.heap.size L ∧ Keep h0 h []
theorem pn8 : plainName "com/example/quaymark/quaymark/ReviewSubmittedPinLaw" = true := by first | (simp [plainName, overriddenIn]; done) | decide +kernel
set_option maxRecDepth 65536 in
set_option maxHeartbeats 40000000 in
theorem rm_law (l : Launch) (Z : State) (a0 : Array Value) (hw : ∀ d ∈ tables_1, d.before a0 Z = true) (zC : Int32) (SC : Sta Z Z.heap "java/lang/String" "COMPACT_STRINGS" "Z" (.int zC)) (PC : ¬ zC = (0 : Int32)) (aE : Addr) (SE : Sta Z Z.heap "java/util/ImmutableCollections" "EMPTY_LIST" "Ljava/util/ImmutableCollections$ListN;" (.ref aE)) (p0 : Int32) (p1 : Int32) (p2 : Int32) (p3 : Int32) (p4 : Int32) (eA : Addr) (eK : ClassId) (eL : List Value) (h0 : Heap) (O0 : Old Z Z.heap.size h0) (PE1 : Exa Z h0 aE "java/util/ImmutableCollections$ListN") (PE2 : Fld Z h0 aE "java/util/ImmutableCollections$ListN" "elements" "[Ljava/lang/Object;" (.ref eA)) (PE3 : Arv Z h0 eA eK (.object "java/lang/Object") (0 : Int32) eL .null) (PE4 : Fld Z h0 aE "java/util/ImmutableCollections$ListN" "allowNulls" "Z" (.int (0 : Int32))) :
    ConS l Z EL (⟨"com/example/quaymark/quaymark/ReviewSubmittedPinLaw", "law", "(IIIII)Z"⟩ : MethodName) code 10 (some .boolean) room_1 #[(.int p0), (.int p1), (.int p2), (.int p3), (.int p4)] h0 [] (Q_law Z zC aE p0 p1 p2 p3 p4 eA eK eL h0) := by
  refine ConS.intro pn8 ?_
  intro p e s m below meth c T0 v0 X0 hx hby hml hown0 hnm hret hlk hZ0 e0 hS0 C0 hsl0
  have N0 := Fr.nil Z.heap.size
  refine castGo (g' := mkF m 0 #[.val (.int p0), .val (.int p1), .val (.int p2), .val (.int p3), .val (.int p4), .unset, .unset, .unset, .unset, .unset] []) (by first | rfl | (simp [entryFrame, mkF, argsToLocals, Value.category]; done)) ?_
  show Go _ _ _ _ (T0.setTop (mkF m 0 #[.val (.int p0), .val (.int p1), .val (.int p2), .val (.int p3), .val (.int p4), .unset, .unset, .unset, .unset, .unset] []))
  refine iL X0 hx (hb hby at_0) (q := 1) rfl rfl ?_
  refine cI X0 hx (hb hby at_1) (q := 2) rfl (z := (3 : Int32)) rfl ?_
  refine g_iand X0 hx (hb hby at_2) (q := 3) rfl rfl ?_
  rcases (own_n p3 : (p3 &&& (3 : Int32)) = (0 : Int32) ∨ (p3 &&& (3 : Int32)) = (1 : Int32) ∨ (p3 &&& (3 : Int32)) = (2 : Int32) ∨ (p3 &&& (3 : Int32)) = (3 : Int32)) with hk143 | hk144 | hk145 | hk146
  · rw [hk143]
    show Go _ _ _ _ (T0.setTop (mkF m 3 #[.val (.int p0), .val (.int p1), .val (.int p2), .val (.int p3), .val (.int p4), .unset, .unset, .unset, .unset, .unset] [(.int (0 : Int32))]))
    refine sIw X0 hx (hb hby at_3) (q := 5) rfl (Ls' := #[.val (.int p0), .val (.int p1), .val (.int p2), .val (.int p3), .val (.int p4), .val (.int (0 : Int32)), .unset, .unset, .unset, .unset]) rfl ?_
    refine iLw X0 hx (hb hby at_5) (q := 7) rfl rfl ?_
    refine g_newA X0 hx hZ0 (aty := .char) (wd0 hw) (by decide) (n := 0) (by decide) (by decide) (by decide) (by decide) e0 (hb hby at_7) (q := 9) rfl ?_
    intro T147 h147 k147 b147 g147 X147 e147 E147 V147
    have Va147 : Arv Z h147 b147 k147 .char (0 : Int32) [] (.int 0) := V147
    refine sAw X147 hx (hb hby at_9) (q := 11) rfl rfl (Ls' := #[.val (.int p0), .val (.int p1), .val (.int p2), .val (.int p3), .val (.int p4), .val (.int (0 : Int32)), .val (.ref b147), .unset, .unset, .unset]) rfl ?_
    refine iLw X147 hx (hb hby at_11) (q := 13) rfl rfl ?_
    refine ifY X147 hx (hb hby at_13) (q := 26) (by decide) (by decide) (by decide) ?_
    refine iLw X147 hx (hb hby at_26) (q := 28) rfl rfl ?_
    refine cI X147 hx (hb hby at_28) (q := 29) rfl (z := (1 : Int32)) rfl ?_
    refine icY X147 hx (hb hby at_29) (q := 42) (by decide) (by decide) (by decide) ?_
    refine iLw X147 hx (hb hby at_42) (q := 44) rfl rfl ?_
    refine cI X147 hx (hb hby at_44) (q := 45) rfl (z := (2 : Int32)) rfl ?_
    refine icY X147 hx (hb hby at_45) (q := 58) (by decide) (by decide) (by decide) ?_
    refine g_new X147 hx hZ0 hown0 (wd1 hw) (wd2 hw) (wd3 hw) (by decide) (by decide) e147 (hb hby at_58) (q := 61) rfl ?_
    intro T148 h148 b148 g148 X148 e148 E148 A148 D148
    have sf149 : Safe Z EL v0 h147 b148 := Safe.new (Nat.le_of_eq g148.symm)
    have F148_27 := D148 (Or.inr (wd27 hw)) (ty := .byte) (by decide)
    have F148_29 := D148 (Or.inr (wd29 hw)) (ty := (.array .byte)) (by decide)
    refine g_dup X148 hx (hb hby at_61) (q := 62) rfl rfl ?_
    refine aLw X148 hx (hb hby at_62) (q := 64) rfl rfl rfl ?_
    have f157 : Old Z Z.heap.size h147 := O0.ext E147
    have gz156 : Z.heap.size ≤ b148 := Nat.le_trans f157.2.1 (Nat.le_of_eq g148.symm)
    have f158 : CHr Z EL s.vm s.heap v0 h147 := C0.trans (CHr.ext E147 C0.1)
    have f159 : Safe Z EL v0 h148 b148 := Safe.ext E148 f158.1 sf149
    have f160 : Arv Z h148 b147 k147 .char (0 : Int32) [] (.int 0) := Va147.ext E148
    have f161 : Old Z Z.heap.size h148 := f157.ext E148
    have f162 : CHr Z EL s.vm s.heap v0 h148 := f158.trans (CHr.ext E148 f158.1)
    refine g_spS X148 hx hZ0 hown0 hS0 (Nat.zero_le _) (wd4 hw) (wd5 hw) (wd6 hw) rfl (by decide) e148 (ConS.back (W := 1) (rm_new1e l Z a0 hw zC SC PC aE SE b148 b147 k147 [] h148 f161 A148 F148_29 F148_27 gz156 f160) hZ0 (wd6 hw) (wd3 hw) (by decide) (by decide) (own_EW hw) f162.1 (sfS f159 sf0) (allS (Nat.lt_of_lt_of_le A148.lt (Nat.le_refl _)) all0)) (by rw [hml]; rfl) (lenOf pd9 rfl) rfl (Nat.le_of_eq rfl) (hb hby at_64) (q := 67) rfl (by decide) (by decide) ?_
    rintro v155 T155 L155 ⟨X155, hS155, hZ155, hown155, R155⟩ Q155
    obtain ⟨t_155, kb_155, rfl, Nq155, K155q, q155_0, q155_1, q155_2, q155_3⟩ := Q155
    have N155 := Fr.app N0 Nq155
    show Go _ _ _ _ (T155.setTop (mkF m 67 #[.val (.int p0), .val (.int p1), .val (.int p2), .val (.int p3), .val (.int p4), .val (.int (0 : Int32)), .val (.ref b147), .unset, .unset, .unset] [(.ref b148)]))
    refine sAw X155 hx (hb hby at_67) (q := 69) rfl rfl (Ls' := #[.val (.int p0), .val (.int p1), .val (.int p2), .val (.int p3), .val (.int p4), .val (.int (0 : Int32)), .val (.ref b147), .val (.ref b148), .unset, .unset]) rfl ?_
    refine aLw X155 hx (hb hby at_69) (q := 71) rfl rfl rfl ?_
    have f179 : Exa Z h147 aE "java/util/ImmutableCollections$ListN" := PE1.ext E147
    have f180 : Exa Z h148 aE "java/util/ImmutableCollections$ListN" := f179.ext E148
    have f181 : Exa Z T155.heap aE "java/util/ImmutableCollections$ListN" := f180.keep K155q
    have f182 : Fld Z h147 aE "java/util/ImmutableCollections$ListN" "elements" "[Ljava/lang/Object;" (.ref eA) := PE2.ext E147
    have f183 : Fld Z h148 aE "java/util/ImmutableCollections$ListN" "elements" "[Ljava/lang/Object;" (.ref eA) := f182.ext E148
    have le184 : (h0).size ≤ (h147).size := E147.1
    have ne185 : aE ≠ b148 := (Nat.ne_of_lt (Nat.lt_of_lt_of_le (Nat.lt_of_lt_of_le PE1.lt le184) (Nat.le_of_eq g148.symm)))
    have f186 : Fld Z T155.heap aE "java/util/ImmutableCollections$ListN" "elements" "[Ljava/lang/Object;" (.ref eA) := f183.keep K155q (ninS ne185 nin0)
    have f187 : Arv Z h147 eA eK (.object "java/lang/Object") (0 : Int32) eL .null := PE3.ext E147
    have f188 : Arv Z h148 eA eK (.object "java/lang/Object") (0 : Int32) eL .null := f187.ext E148
    have ne189 : eA ≠ b148 := (Nat.ne_of_lt (Nat.lt_of_lt_of_le (Nat.lt_of_lt_of_le PE3.lt le184) (Nat.le_of_eq g148.symm)))
    have f190 : Arv Z T155.heap eA eK (.object "java/lang/Object") (0 : Int32) eL .null := f188.keep K155q (ninS ne189 nin0)
    have f191 : Fld Z h147 aE "java/util/ImmutableCollections$ListN" "allowNulls" "Z" (.int (0 : Int32)) := PE4.ext E147
    have f192 : Fld Z h148 aE "java/util/ImmutableCollections$ListN" "allowNulls" "Z" (.int (0 : Int32)) := f191.ext E148
    have f193 : Fld Z T155.heap aE "java/util/ImmutableCollections$ListN" "allowNulls" "Z" (.int (0 : Int32)) := f192.keep K155q (ninS ne185 nin0)
    have f194 : Old Z Z.heap.size T155.heap := f161.keep K155q (allS gz156 all0)
    refine g_st X155 hx hZ155 hown155 (wd30 hw) (wd31 hw) (wd32 hw) (wd33 hw) (by decide) rfl (Con.back (W := 0) (rm_submitted l Z a0 hw zC SC PC aE SE b148 eA eK eL T155.heap f194 f181 f186 f190 f193) hZ155 (wd33 hw) (wd32 hw) (by decide) (by decide)) (by rw [hml]; rfl) (lenOf pd10 rfl) rfl (Nat.le_of_eq rfl) (hb hby at_71) (q := 74) rfl (by decide) (by decide) ?_
    intro v178 T178 L178 X178 Q178
    obtain ⟨r_178, rfl, Nq178, K178q, q178_0, q178_1, q178_2, q178_3, q178_4, q178_5⟩ := Q178
    have N178 := Fr.app N155 Nq178
    show Go _ _ _ _ (T178.setTop (mkF m 74 #[.val (.int p0), .val (.int p1), .val (.int p2), .val (.int p3), .val (.int p4), .val (.int (0 : Int32)), .val (.ref b147), .val (.ref b148), .unset, .unset] [(.ref r_178)]))
    refine sAw X178 hx (hb hby at_74) (q := 76) rfl rfl (Ls' := #[.val (.int p0), .val (.int p1), .val (.int p2), .val (.int p3), .val (.int p4), .val (.int (0 : Int32)), .val (.ref b147), .val (.ref b148), .val (.ref r_178), .unset]) rfl ?_
    refine aLw X178 hx (hb hby at_76) (q := 78) rfl rfl rfl ?_
    have f196 : Old Z Z.heap.size T178.heap := f194.keep K178q all0
    refine g_vi X178 hx hZ155 hown155 (wd77 hw) (wd78 hw) (notFace_of_selects (args := #[]) (mvT hZ155 (wd80 hw))) (wd80 hw) (wd79 hw) (by decide) q178_1 rfl (Con.back (W := 0) (rm_get_submittedBy l Z a0 hw zC SC PC aE SE r_178 b148 T178.heap f196 q178_2) hZ155 (wd81 hw) (wd32 hw) (by decide) (by decide)) (by rw [hml]; rfl) (lenOf pd11 rfl) rfl (Nat.le_of_eq rfl) (hb hby at_78) (q := 81) rfl (by decide) (by decide) ?_
    intro v195 T195 L195 X195 Q195
    obtain ⟨rfl, Nq195, e195⟩ := Q195
    have N195 := Fr.app N178 Nq195
    show Go _ _ _ _ (T195.setTop (mkF m 81 #[.val (.int p0), .val (.int p1), .val (.int p2), .val (.int p3), .val (.int p4), .val (.int (0 : Int32)), .val (.ref b147), .val (.ref b148), .val (.ref r_178), .unset] [(.ref b148)]))
    refine sAw X195 hx (hb hby at_81) (q := 83) rfl rfl (Ls' := #[.val (.int p0), .val (.int p1), .val (.int p2), .val (.int p3), .val (.int p4), .val (.int (0 : Int32)), .val (.ref b147), .val (.ref b148), .val (.ref r_178), .val (.ref b148)]) rfl ?_
    refine aLw X195 hx (hb hby at_83) (q := 85) rfl rfl rfl ?_
    refine nlN X195 hx (hb hby at_85) (q := 88) rfl ?_
    refine aLw X195 hx (hb hby at_88) (q := 90) rfl rfl rfl ?_
    refine aLw X195 hx (hb hby at_90) (q := 92) rfl rfl rfl ?_
    have f198 : Exa Z T178.heap b148 "java/lang/String" := q155_0.keep K178q
    refine g_vi X195 hx hZ155 hown155 (wd82 hw) (wd83 hw) (notFace_of_selects (args := #[]) (mvT hZ155 (wd85 hw))) (wd85 hw) (wd84 hw) (by decide) f198 e195 (Con.back (W := 0) (rm_eqid l Z a0 hw zC SC PC aE SE b148 T178.heap f196 ) hZ155 (wd86 hw) (wd3 hw) (by decide) (by decide)) (by rw [hml]; rfl) (lenOf pd12 rfl) rfl (Nat.le_of_eq rfl) (hb hby at_92) (q := 95) rfl (by decide) (by decide) ?_
    intro v197 T197 L197 X197 Q197
    obtain ⟨rfl, Nq197, e197⟩ := Q197
    have N197 := Fr.app N195 Nq197
    show Go _ _ _ _ (T197.setTop (mkF m 95 #[.val (.int p0), .val (.int p1), .val (.int p2), .val (.int p3), .val (.int p4), .val (.int (0 : Int32)), .val (.ref b147), .val (.ref b148), .val (.ref r_178), .val (.ref b148)] [(.int (1 : Int32))]))
    refine ifY X197 hx (hb hby at_95) (q := 100) (by decide) (by decide) (by decide) ?_
    refine aLw X197 hx (hb hby at_100) (q := 102) rfl rfl rfl ?_
    refine g_vi X197 hx hZ155 hown155 (wd87 hw) (wd88 hw) (notFace_of_selects (args := #[]) (mvT hZ155 (wd90 hw))) (wd90 hw) (wd89 hw) (by decide) q178_1 e197 (Con.back (W := 0) (rm_get_leftOut l Z a0 hw zC SC PC aE SE r_178 aE T178.heap f196 q178_3) hZ155 (wd91 hw) (wd32 hw) (by decide) (by decide)) (by rw [hml]; rfl) (lenOf pd3 rfl) rfl (Nat.le_of_eq rfl) (hb hby at_102) (q := 105) rfl (by decide) (by decide) ?_
    intro v199 T199 L199 X199 Q199
    obtain ⟨rfl, Nq199, e199⟩ := Q199
    have N199 := Fr.app N197 Nq199
    show Go _ _ _ _ (T199.setTop (mkF m 105 #[.val (.int p0), .val (.int p1), .val (.int p2), .val (.int p3), .val (.int p4), .val (.int (0 : Int32)), .val (.ref b147), .val (.ref b148), .val (.ref r_178), .val (.ref b148)] [(.ref aE)]))
    have f205 : Exa Z T178.heap aE "java/util/ImmutableCollections$ListN" := f181.keep K178q
    have f206 : Fld Z T178.heap aE "java/util/ImmutableCollections$ListN" "elements" "[Ljava/lang/Object;" (.ref eA) := f186.keep K178q nin0
    have f207 : Arv Z T178.heap eA eK (.object "java/lang/Object") (0 : Int32) eL .null := f190.keep K178q nin0
    have f208 : Fld Z T178.heap aE "java/util/ImmutableCollections$ListN" "allowNulls" "Z" (.int (0 : Int32)) := f193.keep K178q nin0
    refine g_if X199 hx hZ155 hown155 (wd92 hw) (wd93 hw) (wd94 hw) rfl (wd95 hw) (wd96 hw) (wd97 hw) (wd98 hw) (wd68 hw) (by decide) f205 e199 (Con.back (W := 0) (rm_lnsize l Z a0 hw zC SC PC aE SE eA eK eL T178.heap f196 f205 f206 f207 f208) hZ155 (wd100 hw) (wd99 hw) (by decide) (by decide)) (by rw [hml]; rfl) (lenOf pd5 rfl) rfl (Nat.le_of_eq rfl) (hb hby at_105) (q := 110) rfl (by decide) (by decide) ?_
    intro v204 T204 L204 X204 Q204
    obtain ⟨rfl, Nq204, e204⟩ := Q204
    have N204 := Fr.app N199 Nq204
    show Go _ _ _ _ (T204.setTop (mkF m 110 #[.val (.int p0), .val (.int p1), .val (.int p2), .val (.int p3), .val (.int p4), .val (.int (0 : Int32)), .val (.ref b147), .val (.ref b148), .val (.ref r_178), .val (.ref b148)] [(.int (0 : Int32))]))
    refine ifY X204 hx (hb hby at_110) (q := 115) (by decide) (by decide) (by decide) ?_
    refine aLw X204 hx (hb hby at_115) (q := 117) rfl rfl rfl ?_
    refine g_vi X204 hx hZ155 hown155 (wd103 hw) (wd104 hw) (notFace_of_selects (args := #[]) (mvT hZ155 (wd106 hw))) (wd106 hw) (wd105 hw) (by decide) q178_1 e204 (Con.back (W := 0) (rm_get_signedOffBy l Z a0 hw zC SC PC aE SE r_178 T178.heap f196 q178_4) hZ155 (wd107 hw) (wd32 hw) (by decide) (by decide)) (by rw [hml]; rfl) (lenOf pd11 rfl) rfl (Nat.le_of_eq rfl) (hb hby at_117) (q := 120) rfl (by decide) (by decide) ?_
    intro v209 T209 L209 X209 Q209
    obtain ⟨rfl, Nq209, e209⟩ := Q209
    have N209 := Fr.app N204 Nq209
    show Go _ _ _ _ (T209.setTop (mkF m 120 #[.val (.int p0), .val (.int p1), .val (.int p2), .val (.int p3), .val (.int p4), .val (.int (0 : Int32)), .val (.ref b147), .val (.ref b148), .val (.ref r_178), .val (.ref b148)] [.null]))
    refine nlY X209 hx (hb hby at_120) (q := 125) (by decide) (by decide) ?_
    refine aLw X209 hx (hb hby at_125) (q := 127) rfl rfl rfl ?_
    refine g_vi X209 hx hZ155 hown155 (wd108 hw) (wd109 hw) (notFace_of_selects (args := #[]) (mvT hZ155 (wd111 hw))) (wd111 hw) (wd110 hw) (by decide) q178_1 e209 (Con.back (W := 0) (rm_get_withdrawn l Z a0 hw zC SC PC aE SE r_178 T178.heap f196 q178_5) hZ155 (wd112 hw) (wd32 hw) (by decide) (by decide)) (by rw [hml]; rfl) (lenOf pd13 rfl) rfl (Nat.le_of_eq rfl) (hb hby at_127) (q := 130) rfl (by decide) (by decide) ?_
    intro v210 T210 L210 X210 Q210
    obtain ⟨rfl, Nq210, e210⟩ := Q210
    have N210 := Fr.app N209 Nq210
    show Go _ _ _ _ (T210.setTop (mkF m 130 #[.val (.int p0), .val (.int p1), .val (.int p2), .val (.int p3), .val (.int p4), .val (.int (0 : Int32)), .val (.ref b147), .val (.ref b148), .val (.ref r_178), .val (.ref b148)] [.null]))
    refine nlY X210 hx (hb hby at_130) (q := 135) (by decide) (by decide) ?_
    refine aLw X210 hx (hb hby at_135) (q := 137) rfl rfl rfl ?_
    refine iLw X210 hx (hb hby at_137) (q := 139) rfl rfl ?_
    refine g_vi X210 hx hZ155 hown155 (wd113 hw) (wd114 hw) (notFace_of_selects (args := #[]) (mvT hZ155 (wd116 hw))) (wd116 hw) (wd115 hw) (by decide) q178_1 e210 (Con.back (W := 0) (rm_leftoutI l Z a0 hw zC SC PC aE SE r_178 p4 eA eK eL T178.heap f196 f205 f206 f207 f208 q178_3) hZ155 (wd117 hw) (wd32 hw) (by decide) (by decide)) (by rw [hml]; rfl) (lenOf pd14 rfl) rfl (Nat.le_of_eq rfl) (hb hby at_139) (q := 142) rfl (by decide) (by decide) ?_
    intro v211 T211 L211 X211 Q211
    obtain ⟨rfl, Nq211, K211q⟩ := Q211
    have N211 := Fr.app N210 Nq211
    show Go _ _ _ _ (T211.setTop (mkF m 142 #[.val (.int p0), .val (.int p1), .val (.int p2), .val (.int p3), .val (.int p4), .val (.int (0 : Int32)), .val (.ref b147), .val (.ref b148), .val (.ref r_178), .val (.ref b148)] [.null]))
    refine nnN X211 hx (hb hby at_142) (q := 145) rfl ?_
    refine cI X211 hx (hb hby at_145) (q := 146) rfl (z := (1 : Int32)) rfl ?_
    refine g_goto X211 hx (hb hby at_146) (q := 150) (by decide) (by decide) ?_
    have K212 : Keep h0 h147 [] := (Keep.refl h0 []).ext E147
    have K213 : Keep h0 h148 [] := K212.ext E148
    have gh214 : h0.size ≤ b148 := Nat.le_trans le184 (Nat.le_of_eq g148.symm)
    have K215 : Keep h0 T155.heap [] := K213.trans K155q (allS (Or.inr gh214) all0)
    have K216 : Keep h0 T178.heap [] := K215.trans K178q all0
    have K217 : Keep h0 T211.heap [] := K216.trans K211q all0
    have le218 : (T155.heap).size ≤ (T178.heap).size := K178q.1
    have le219 : (T155.heap).size ≤ (T211.heap).size := (Nat.le_trans le218 K211q.1)
    have f220 : CHr Z EL s.vm s.heap T155.vm T155.heap := f162.trans R155
    have f221 : CHr Z EL s.vm s.heap T155.vm T178.heap := f220.trans (CHr.keep K178q sf0 f220.1)
    have f222 : CHr Z EL s.vm s.heap T155.vm T211.heap := f221.trans (CHr.keep K211q sf0 f221.1)
    refine endC X211 hlk hS155 (Nat.le_trans (Nat.le_refl _) le219) hZ155 (own_EW hw) f222 (fun h => by rw [hret] at h; cases h) (lastN X211 hx (t := .boolean) (z' := (1 : Int32)) hret (by simp) (by decide) (hb hby at_150)) ?_ (by decide) (by decide)
    exact ⟨rfl, N211, K217⟩
  · rw [hk144]
    show Go _ _ _ _ (T0.setTop (mkF m 3 #[.val (.int p0), .val (.int p1), .val (.int p2), .val (.int p3), .val (.int p4), .unset, .unset, .unset, .unset, .unset] [(.int (1 : Int32))]))
    refine sIw X0 hx (hb hby at_3) (q := 5) rfl (Ls' := #[.val (.int p0), .val (.int p1), .val (.int p2), .val (.int p3), .val (.int p4), .val (.int (1 : Int32)), .unset, .unset, .unset, .unset]) rfl ?_
    refine iLw X0 hx (hb hby at_5) (q := 7) rfl rfl ?_
    refine g_newA X0 hx hZ0 (aty := .char) (wd0 hw) (by decide) (n := 1) (by decide) (by decide) (by decide) (by decide) e0 (hb hby at_7) (q := 9) rfl ?_
    intro T223 h223 k223 b223 g223 X223 e223 E223 V223
    have Va223 : Arv Z h223 b223 k223 .char (1 : Int32) [(.int (0 : Int32))] (.int 0) := V223
    refine sAw X223 hx (hb hby at_9) (q := 11) rfl rfl (Ls' := #[.val (.int p0), .val (.int p1), .val (.int p2), .val (.int p3), .val (.int p4), .val (.int (1 : Int32)), .val (.ref b223), .unset, .unset, .unset]) rfl ?_
    refine iLw X223 hx (hb hby at_11) (q := 13) rfl rfl ?_
    refine ifN X223 hx (hb hby at_13) (q := 16) rfl (by decide) ?_
    refine aLw X223 hx (hb hby at_16) (q := 18) rfl rfl rfl ?_
    refine cI X223 hx (hb hby at_18) (q := 19) rfl (z := (0 : Int32)) rfl ?_
    refine iL X223 hx (hb hby at_19) (q := 20) rfl rfl ?_
    refine pI X223 hx (hb hby at_20) (q := 23) rfl (z := (255 : Int32)) rfl ?_
    refine g_iand X223 hx (hb hby at_23) (q := 24) rfl rfl ?_
    refine g_i2c X223 hx (hb hby at_24) (q := 25) rfl (z := (chr p0)) rfl ?_
    have gz225 : Z.heap.size ≤ b223 := Nat.le_trans O0.2.1 (Nat.le_of_eq g223.symm)
    have f226 : CHr Z EL s.vm s.heap v0 h223 := C0.trans (CHr.ext E223 C0.1)
    refine g_stC X223 hx hZ0 Va223 (i := 0) (by decide) (by decide) (by decide) (Nat.le_of_ble_eq_true rfl) (y := (chr p0)) (chr_nar _) e223 (hb hby at_25) (q := 26) rfl ?_
    intro T224 h224 X224 e224 W224 V224
    have N224 := Fr.snoc X224 N0 gz225
    have Va224 : Arv Z h224 b223 k223 .char (1 : Int32) [(.int (chr p0))] (.int 0) := V224
    refine iLw X224 hx (hb hby at_26) (q := 28) rfl rfl ?_
    refine cI X224 hx (hb hby at_28) (q := 29) rfl (z := (1 : Int32)) rfl ?_
    refine icY X224 hx (hb hby at_29) (q := 42) (by decide) (by decide) (by decide) ?_
    refine iLw X224 hx (hb hby at_42) (q := 44) rfl rfl ?_
    refine cI X224 hx (hb hby at_44) (q := 45) rfl (z := (2 : Int32)) rfl ?_
    refine icY X224 hx (hb hby at_45) (q := 58) (by decide) (by decide) (by decide) ?_
    refine g_new X224 hx hZ0 hown0 (wd1 hw) (wd2 hw) (wd3 hw) (by decide) (by decide) e224 (hb hby at_58) (q := 61) rfl ?_
    intro T227 h227 b227 g227 X227 e227 E227 A227 D227
    have sf228 : Safe Z EL v0 h224 b227 := Safe.new (Nat.le_of_eq g227.symm)
    have F227_27 := D227 (Or.inr (wd27 hw)) (ty := .byte) (by decide)
    have F227_29 := D227 (Or.inr (wd29 hw)) (ty := (.array .byte)) (by decide)
    refine g_dup X227 hx (hb hby at_61) (q := 62) rfl rfl ?_
    refine aLw X227 hx (hb hby at_62) (q := 64) rfl rfl rfl ?_
    have f230 : Old Z Z.heap.size h223 := O0.ext E223
    have f231 : Old Z Z.heap.size h224 := f230.wr W224 gz225
    have f232 : Old Z Z.heap.size h227 := f231.ext E227
    have gz233 : Z.heap.size ≤ b227 := Nat.le_trans f231.2.1 (Nat.le_of_eq g227.symm)
    have f234 : Arv Z h227 b223 k223 .char (1 : Int32) [(.int (chr p0))] (.int 0) := Va224.ext E227
    refine g_sp X227 hx hZ0 hown0 (wd4 hw) (wd5 hw) (wd6 hw) rfl (by decide) e227 (StrChars.Road.backV (W := 1) hZ0 (own_wStr hw) (kI := 4) (wd2 hw) (cs := [(chr p0)]) (bs := ([(chr p0)].map (fun c => c.toInt8.toInt32))) (n := 1) gz233 f232.2.1 A227 F227_29 F227_27 f234 (SC.ext f232.2) PC rfl rfl (by decide) (by decide) (alS (chr_rng _) al0) rfl (by decide) (by decide)) (a := b227) (argsL := [.ref b223]) (W := 1) (nk := 1) (ns := 1) (Qc := StrChars.Road.QV Z b227 (1 : Int32) ([(chr p0)].map (fun c => c.toInt8.toInt32)) h227 Z.heap.size) (by rw [hml]; rfl) (lenOf pd9 rfl) rfl (Nat.le_of_eq rfl) (hb hby at_64) (q := 67) rfl (by decide) (by decide) ?_
    intro v229 T229 L229 X229 Q229
    obtain ⟨rfl, Nq229, K229q, E229q, C229q, t229, kb229, tz229, tg229, tn229, Fv229, Va229⟩ := Q229
    have N229 := Fr.app N224 Nq229
    show Go _ _ _ _ (T229.setTop (mkF m 67 #[.val (.int p0), .val (.int p1), .val (.int p2), .val (.int p3), .val (.int p4), .val (.int (1 : Int32)), .val (.ref b223), .unset, .unset, .unset] [(.ref b227)]))
    refine sAw X229 hx (hb hby at_67) (q := 69) rfl rfl (Ls' := #[.val (.int p0), .val (.int p1), .val (.int p2), .val (.int p3), .val (.int p4), .val (.int (1 : Int32)), .val (.ref b223), .val (.ref b227), .unset, .unset]) rfl ?_
    refine aLw X229 hx (hb hby at_69) (q := 71) rfl rfl rfl ?_
    have f258 : Exa Z h223 aE "java/util/ImmutableCollections$ListN" := PE1.ext E223
    have f259 : Exa Z h224 aE "java/util/ImmutableCollections$ListN" := f258.wr W224
    have f260 : Exa Z h227 aE "java/util/ImmutableCollections$ListN" := f259.ext E227
    have f261 : Exa Z T229.heap aE "java/util/ImmutableCollections$ListN" := f260.keep K229q
    have f262 : Fld Z h223 aE "java/util/ImmutableCollections$ListN" "elements" "[Ljava/lang/Object;" (.ref eA) := PE2.ext E223
    have ne263 : aE ≠ b223 := (Nat.ne_of_lt (Nat.lt_of_lt_of_le (Nat.lt_of_lt_of_le PE1.lt (Nat.le_refl _)) (Nat.le_of_eq g223.symm)))
    have f264 : Fld Z h224 aE "java/util/ImmutableCollections$ListN" "elements" "[Ljava/lang/Object;" (.ref eA) := f262.other W224 (Or.inl ne263)
    have f265 : Fld Z h227 aE "java/util/ImmutableCollections$ListN" "elements" "[Ljava/lang/Object;" (.ref eA) := f264.ext E227
    have le266 : (h0).size ≤ (h223).size := E223.1
    have le267 : (h0).size ≤ (h224).size := (Nat.le_trans le266 (Nat.le_of_eq (Wr.size W224).symm))
    have ne268 : aE ≠ b227 := (Nat.ne_of_lt (Nat.lt_of_lt_of_le (Nat.lt_of_lt_of_le PE1.lt le267) (Nat.le_of_eq g227.symm)))
    have f269 : Fld Z T229.heap aE "java/util/ImmutableCollections$ListN" "elements" "[Ljava/lang/Object;" (.ref eA) := f265.keep K229q (ninS ne268 nin0)
    have f270 : Arv Z h223 eA eK (.object "java/lang/Object") (0 : Int32) eL .null := PE3.ext E223
    have ne271 : eA ≠ b223 := (Nat.ne_of_lt (Nat.lt_of_lt_of_le (Nat.lt_of_lt_of_le PE3.lt (Nat.le_refl _)) (Nat.le_of_eq g223.symm)))
    have f272 : Arv Z h224 eA eK (.object "java/lang/Object") (0 : Int32) eL .null := f270.other W224 ne271
    have f273 : Arv Z h227 eA eK (.object "java/lang/Object") (0 : Int32) eL .null := f272.ext E227
    have ne274 : eA ≠ b227 := (Nat.ne_of_lt (Nat.lt_of_lt_of_le (Nat.lt_of_lt_of_le PE3.lt le267) (Nat.le_of_eq g227.symm)))
    have f275 : Arv Z T229.heap eA eK (.object "java/lang/Object") (0 : Int32) eL .null := f273.keep K229q (ninS ne274 nin0)
    have f276 : Fld Z h223 aE "java/util/ImmutableCollections$ListN" "allowNulls" "Z" (.int (0 : Int32)) := PE4.ext E223
    have f277 : Fld Z h224 aE "java/util/ImmutableCollections$ListN" "allowNulls" "Z" (.int (0 : Int32)) := f276.other W224 (Or.inl ne263)
    have f278 : Fld Z h227 aE "java/util/ImmutableCollections$ListN" "allowNulls" "Z" (.int (0 : Int32)) := f277.ext E227
    have f279 : Fld Z T229.heap aE "java/util/ImmutableCollections$ListN" "allowNulls" "Z" (.int (0 : Int32)) := f278.keep K229q (ninS ne268 nin0)
    have f280 : Old Z Z.heap.size T229.heap := f232.keep K229q (allS gz233 all0)
    refine g_st X229 hx hZ0 hown0 (wd30 hw) (wd31 hw) (wd32 hw) (wd33 hw) (by decide) rfl (Con.back (W := 0) (rm_submitted l Z a0 hw zC SC PC aE SE b227 eA eK eL T229.heap f280 f261 f269 f275 f279) hZ0 (wd33 hw) (wd32 hw) (by decide) (by decide)) (by rw [hml]; rfl) (lenOf pd10 rfl) rfl (Nat.le_of_eq rfl) (hb hby at_71) (q := 74) rfl (by decide) (by decide) ?_
    intro v257 T257 L257 X257 Q257
    obtain ⟨r_257, rfl, Nq257, K257q, q257_0, q257_1, q257_2, q257_3, q257_4, q257_5⟩ := Q257
    have N257 := Fr.app N229 Nq257
    show Go _ _ _ _ (T257.setTop (mkF m 74 #[.val (.int p0), .val (.int p1), .val (.int p2), .val (.int p3), .val (.int p4), .val (.int (1 : Int32)), .val (.ref b223), .val (.ref b227), .unset, .unset] [(.ref r_257)]))
    refine sAw X257 hx (hb hby at_74) (q := 76) rfl rfl (Ls' := #[.val (.int p0), .val (.int p1), .val (.int p2), .val (.int p3), .val (.int p4), .val (.int (1 : Int32)), .val (.ref b223), .val (.ref b227), .val (.ref r_257), .unset]) rfl ?_
    refine aLw X257 hx (hb hby at_76) (q := 78) rfl rfl rfl ?_
    have f282 : Old Z Z.heap.size T257.heap := f280.keep K257q all0
    refine g_vi X257 hx hZ0 hown0 (wd77 hw) (wd78 hw) (notFace_of_selects (args := #[]) (mvT hZ0 (wd80 hw))) (wd80 hw) (wd79 hw) (by decide) q257_1 rfl (Con.back (W := 0) (rm_get_submittedBy l Z a0 hw zC SC PC aE SE r_257 b227 T257.heap f282 q257_2) hZ0 (wd81 hw) (wd32 hw) (by decide) (by decide)) (by rw [hml]; rfl) (lenOf pd11 rfl) rfl (Nat.le_of_eq rfl) (hb hby at_78) (q := 81) rfl (by decide) (by decide) ?_
    intro v281 T281 L281 X281 Q281
    obtain ⟨rfl, Nq281, e281⟩ := Q281
    have N281 := Fr.app N257 Nq281
    show Go _ _ _ _ (T281.setTop (mkF m 81 #[.val (.int p0), .val (.int p1), .val (.int p2), .val (.int p3), .val (.int p4), .val (.int (1 : Int32)), .val (.ref b223), .val (.ref b227), .val (.ref r_257), .unset] [(.ref b227)]))
    refine sAw X281 hx (hb hby at_81) (q := 83) rfl rfl (Ls' := #[.val (.int p0), .val (.int p1), .val (.int p2), .val (.int p3), .val (.int p4), .val (.int (1 : Int32)), .val (.ref b223), .val (.ref b227), .val (.ref r_257), .val (.ref b227)]) rfl ?_
    refine aLw X281 hx (hb hby at_83) (q := 85) rfl rfl rfl ?_
    refine nlN X281 hx (hb hby at_85) (q := 88) rfl ?_
    refine aLw X281 hx (hb hby at_88) (q := 90) rfl rfl rfl ?_
    refine aLw X281 hx (hb hby at_90) (q := 92) rfl rfl rfl ?_
    have f284 : Exa Z T257.heap b227 "java/lang/String" := E229q.keep K257q
    refine g_vi X281 hx hZ0 hown0 (wd82 hw) (wd83 hw) (notFace_of_selects (args := #[]) (mvT hZ0 (wd85 hw))) (wd85 hw) (wd84 hw) (by decide) f284 e281 (Con.back (W := 0) (rm_eqid l Z a0 hw zC SC PC aE SE b227 T257.heap f282 ) hZ0 (wd86 hw) (wd3 hw) (by decide) (by decide)) (by rw [hml]; rfl) (lenOf pd12 rfl) rfl (Nat.le_of_eq rfl) (hb hby at_92) (q := 95) rfl (by decide) (by decide) ?_
    intro v283 T283 L283 X283 Q283
    obtain ⟨rfl, Nq283, e283⟩ := Q283
    have N283 := Fr.app N281 Nq283
    show Go _ _ _ _ (T283.setTop (mkF m 95 #[.val (.int p0), .val (.int p1), .val (.int p2), .val (.int p3), .val (.int p4), .val (.int (1 : Int32)), .val (.ref b223), .val (.ref b227), .val (.ref r_257), .val (.ref b227)] [(.int (1 : Int32))]))
    refine ifY X283 hx (hb hby at_95) (q := 100) (by decide) (by decide) (by decide) ?_
    refine aLw X283 hx (hb hby at_100) (q := 102) rfl rfl rfl ?_
    refine g_vi X283 hx hZ0 hown0 (wd87 hw) (wd88 hw) (notFace_of_selects (args := #[]) (mvT hZ0 (wd90 hw))) (wd90 hw) (wd89 hw) (by decide) q257_1 e283 (Con.back (W := 0) (rm_get_leftOut l Z a0 hw zC SC PC aE SE r_257 aE T257.heap f282 q257_3) hZ0 (wd91 hw) (wd32 hw) (by decide) (by decide)) (by rw [hml]; rfl) (lenOf pd3 rfl) rfl (Nat.le_of_eq rfl) (hb hby at_102) (q := 105) rfl (by decide) (by decide) ?_
    intro v285 T285 L285 X285 Q285
    obtain ⟨rfl, Nq285, e285⟩ := Q285
    have N285 := Fr.app N283 Nq285
    show Go _ _ _ _ (T285.setTop (mkF m 105 #[.val (.int p0), .val (.int p1), .val (.int p2), .val (.int p3), .val (.int p4), .val (.int (1 : Int32)), .val (.ref b223), .val (.ref b227), .val (.ref r_257), .val (.ref b227)] [(.ref aE)]))
    have f291 : Exa Z T257.heap aE "java/util/ImmutableCollections$ListN" := f261.keep K257q
    have f292 : Fld Z T257.heap aE "java/util/ImmutableCollections$ListN" "elements" "[Ljava/lang/Object;" (.ref eA) := f269.keep K257q nin0
    have f293 : Arv Z T257.heap eA eK (.object "java/lang/Object") (0 : Int32) eL .null := f275.keep K257q nin0
    have f294 : Fld Z T257.heap aE "java/util/ImmutableCollections$ListN" "allowNulls" "Z" (.int (0 : Int32)) := f279.keep K257q nin0
    refine g_if X285 hx hZ0 hown0 (wd92 hw) (wd93 hw) (wd94 hw) rfl (wd95 hw) (wd96 hw) (wd97 hw) (wd98 hw) (wd68 hw) (by decide) f291 e285 (Con.back (W := 0) (rm_lnsize l Z a0 hw zC SC PC aE SE eA eK eL T257.heap f282 f291 f292 f293 f294) hZ0 (wd100 hw) (wd99 hw) (by decide) (by decide)) (by rw [hml]; rfl) (lenOf pd5 rfl) rfl (Nat.le_of_eq rfl) (hb hby at_105) (q := 110) rfl (by decide) (by decide) ?_
    intro v290 T290 L290 X290 Q290
    obtain ⟨rfl, Nq290, e290⟩ := Q290
    have N290 := Fr.app N285 Nq290
    show Go _ _ _ _ (T290.setTop (mkF m 110 #[.val (.int p0), .val (.int p1), .val (.int p2), .val (.int p3), .val (.int p4), .val (.int (1 : Int32)), .val (.ref b223), .val (.ref b227), .val (.ref r_257), .val (.ref b227)] [(.int (0 : Int32))]))
    refine ifY X290 hx (hb hby at_110) (q := 115) (by decide) (by decide) (by decide) ?_
    refine aLw X290 hx (hb hby at_115) (q := 117) rfl rfl rfl ?_
    refine g_vi X290 hx hZ0 hown0 (wd103 hw) (wd104 hw) (notFace_of_selects (args := #[]) (mvT hZ0 (wd106 hw))) (wd106 hw) (wd105 hw) (by decide) q257_1 e290 (Con.back (W := 0) (rm_get_signedOffBy l Z a0 hw zC SC PC aE SE r_257 T257.heap f282 q257_4) hZ0 (wd107 hw) (wd32 hw) (by decide) (by decide)) (by rw [hml]; rfl) (lenOf pd11 rfl) rfl (Nat.le_of_eq rfl) (hb hby at_117) (q := 120) rfl (by decide) (by decide) ?_
    intro v295 T295 L295 X295 Q295
    obtain ⟨rfl, Nq295, e295⟩ := Q295
    have N295 := Fr.app N290 Nq295
    show Go _ _ _ _ (T295.setTop (mkF m 120 #[.val (.int p0), .val (.int p1), .val (.int p2), .val (.int p3), .val (.int p4), .val (.int (1 : Int32)), .val (.ref b223), .val (.ref b227), .val (.ref r_257), .val (.ref b227)] [.null]))
    refine nlY X295 hx (hb hby at_120) (q := 125) (by decide) (by decide) ?_
    refine aLw X295 hx (hb hby at_125) (q := 127) rfl rfl rfl ?_
    refine g_vi X295 hx hZ0 hown0 (wd108 hw) (wd109 hw) (notFace_of_selects (args := #[]) (mvT hZ0 (wd111 hw))) (wd111 hw) (wd110 hw) (by decide) q257_1 e295 (Con.back (W := 0) (rm_get_withdrawn l Z a0 hw zC SC PC aE SE r_257 T257.heap f282 q257_5) hZ0 (wd112 hw) (wd32 hw) (by decide) (by decide)) (by rw [hml]; rfl) (lenOf pd13 rfl) rfl (Nat.le_of_eq rfl) (hb hby at_127) (q := 130) rfl (by decide) (by decide) ?_
    intro v296 T296 L296 X296 Q296
    obtain ⟨rfl, Nq296, e296⟩ := Q296
    have N296 := Fr.app N295 Nq296
    show Go _ _ _ _ (T296.setTop (mkF m 130 #[.val (.int p0), .val (.int p1), .val (.int p2), .val (.int p3), .val (.int p4), .val (.int (1 : Int32)), .val (.ref b223), .val (.ref b227), .val (.ref r_257), .val (.ref b227)] [.null]))
    refine nlY X296 hx (hb hby at_130) (q := 135) (by decide) (by decide) ?_
    refine aLw X296 hx (hb hby at_135) (q := 137) rfl rfl rfl ?_
    refine iLw X296 hx (hb hby at_137) (q := 139) rfl rfl ?_
    refine g_vi X296 hx hZ0 hown0 (wd113 hw) (wd114 hw) (notFace_of_selects (args := #[]) (mvT hZ0 (wd116 hw))) (wd116 hw) (wd115 hw) (by decide) q257_1 e296 (Con.back (W := 0) (rm_leftoutI l Z a0 hw zC SC PC aE SE r_257 p4 eA eK eL T257.heap f282 f291 f292 f293 f294 q257_3) hZ0 (wd117 hw) (wd32 hw) (by decide) (by decide)) (by rw [hml]; rfl) (lenOf pd14 rfl) rfl (Nat.le_of_eq rfl) (hb hby at_139) (q := 142) rfl (by decide) (by decide) ?_
    intro v297 T297 L297 X297 Q297
    obtain ⟨rfl, Nq297, K297q⟩ := Q297
    have N297 := Fr.app N296 Nq297
    show Go _ _ _ _ (T297.setTop (mkF m 142 #[.val (.int p0), .val (.int p1), .val (.int p2), .val (.int p3), .val (.int p4), .val (.int (1 : Int32)), .val (.ref b223), .val (.ref b227), .val (.ref r_257), .val (.ref b227)] [.null]))
    refine nnN X297 hx (hb hby at_142) (q := 145) rfl ?_
    refine cI X297 hx (hb hby at_145) (q := 146) rfl (z := (1 : Int32)) rfl ?_
    refine g_goto X297 hx (hb hby at_146) (q := 150) (by decide) (by decide) ?_
    have K298 : Keep h0 h223 [] := (Keep.refl h0 []).ext E223
    have gh299 : h0.size ≤ b223 := Nat.le_trans (Nat.le_refl _) (Nat.le_of_eq g223.symm)
    have K300 : Keep h0 h224 [] := K298.wr W224 (Or.inr gh299)
    have K301 : Keep h0 h227 [] := K300.ext E227
    have gh302 : h0.size ≤ b227 := Nat.le_trans le267 (Nat.le_of_eq g227.symm)
    have K303 : Keep h0 T229.heap [] := K301.trans K229q (allS (Or.inr gh302) all0)
    have K304 : Keep h0 T257.heap [] := K303.trans K257q all0
    have K305 : Keep h0 T297.heap [] := K304.trans K297q all0
    have sf306 : Safe Z EL v0 h0 b223 := Safe.new (Nat.le_of_eq g223.symm)
    have f307 : Safe Z EL v0 h223 b223 := Safe.ext E223 C0.1 sf306
    have f308 : CHr Z EL s.vm s.heap v0 h224 := f226.trans (CHr.wr W224 f307 f226.1)
    have f309 : CHr Z EL s.vm s.heap v0 h227 := f308.trans (CHr.ext E227 f308.1)
    have f310 : Safe Z EL v0 h227 b227 := Safe.ext E227 f308.1 sf228
    have f311 : CHr Z EL s.vm s.heap v0 T229.heap := f309.trans (CHr.keep K229q (sfS f310 sf0) f309.1)
    have f312 : CHr Z EL s.vm s.heap v0 T257.heap := f311.trans (CHr.keep K257q sf0 f311.1)
    have f313 : CHr Z EL s.vm s.heap v0 T297.heap := f312.trans (CHr.keep K297q sf0 f312.1)
    refine endC X297 hlk hS0 (Nat.zero_le _) hZ0 (own_EW hw) f313 (fun h => by rw [hret] at h; cases h) (lastN X297 hx (t := .boolean) (z' := (1 : Int32)) hret (by simp) (by decide) (hb hby at_150)) ?_ (by decide) (by decide)
    exact ⟨rfl, N297, K305⟩
  · rw [hk145]
    show Go _ _ _ _ (T0.setTop (mkF m 3 #[.val (.int p0), .val (.int p1), .val (.int p2), .val (.int p3), .val (.int p4), .unset, .unset, .unset, .unset, .unset] [(.int (2 : Int32))]))
    refine sIw X0 hx (hb hby at_3) (q := 5) rfl (Ls' := #[.val (.int p0), .val (.int p1), .val (.int p2), .val (.int p3), .val (.int p4), .val (.int (2 : Int32)), .unset, .unset, .unset, .unset]) rfl ?_
    refine iLw X0 hx (hb hby at_5) (q := 7) rfl rfl ?_
    refine g_newA X0 hx hZ0 (aty := .char) (wd0 hw) (by decide) (n := 2) (by decide) (by decide) (by decide) (by decide) e0 (hb hby at_7) (q := 9) rfl ?_
    intro T314 h314 k314 b314 g314 X314 e314 E314 V314
    have Va314 : Arv Z h314 b314 k314 .char (2 : Int32) [(.int (0 : Int32)), (.int (0 : Int32))] (.int 0) := V314
    refine sAw X314 hx (hb hby at_9) (q := 11) rfl rfl (Ls' := #[.val (.int p0), .val (.int p1), .val (.int p2), .val (.int p3), .val (.int p4), .val (.int (2 : Int32)), .val (.ref b314), .unset, .unset, .unset]) rfl ?_
    refine iLw X314 hx (hb hby at_11) (q := 13) rfl rfl ?_
    refine ifN X314 hx (hb hby at_13) (q := 16) rfl (by decide) ?_
    refine aLw X314 hx (hb hby at_16) (q := 18) rfl rfl rfl ?_
    refine cI X314 hx (hb hby at_18) (q := 19) rfl (z := (0 : Int32)) rfl ?_
    refine iL X314 hx (hb hby at_19) (q := 20) rfl rfl ?_
    refine pI X314 hx (hb hby at_20) (q := 23) rfl (z := (255 : Int32)) rfl ?_
    refine g_iand X314 hx (hb hby at_23) (q := 24) rfl rfl ?_
    refine g_i2c X314 hx (hb hby at_24) (q := 25) rfl (z := (chr p0)) rfl ?_
    have gz316 : Z.heap.size ≤ b314 := Nat.le_trans O0.2.1 (Nat.le_of_eq g314.symm)
    have f317 : CHr Z EL s.vm s.heap v0 h314 := C0.trans (CHr.ext E314 C0.1)
    refine g_stC X314 hx hZ0 Va314 (i := 0) (by decide) (by decide) (by decide) (Nat.le_of_ble_eq_true rfl) (y := (chr p0)) (chr_nar _) e314 (hb hby at_25) (q := 26) rfl ?_
    intro T315 h315 X315 e315 W315 V315
    have N315 := Fr.snoc X315 N0 gz316
    have Va315 : Arv Z h315 b314 k314 .char (2 : Int32) [(.int (chr p0)), (.int (0 : Int32))] (.int 0) := V315
    refine iLw X315 hx (hb hby at_26) (q := 28) rfl rfl ?_
    refine cI X315 hx (hb hby at_28) (q := 29) rfl (z := (1 : Int32)) rfl ?_
    refine icN X315 hx (hb hby at_29) (q := 32) rfl (by decide) ?_
    refine aLw X315 hx (hb hby at_32) (q := 34) rfl rfl rfl ?_
    refine cI X315 hx (hb hby at_34) (q := 35) rfl (z := (1 : Int32)) rfl ?_
    refine iL X315 hx (hb hby at_35) (q := 36) rfl rfl ?_
    refine pI X315 hx (hb hby at_36) (q := 39) rfl (z := (255 : Int32)) rfl ?_
    refine g_iand X315 hx (hb hby at_39) (q := 40) rfl rfl ?_
    refine g_i2c X315 hx (hb hby at_40) (q := 41) rfl (z := (chr p1)) rfl ?_
    have sf319 : Safe Z EL v0 h0 b314 := Safe.new (Nat.le_of_eq g314.symm)
    have f320 : Safe Z EL v0 h314 b314 := Safe.ext E314 C0.1 sf319
    have f321 : CHr Z EL s.vm s.heap v0 h315 := f317.trans (CHr.wr W315 f320 f317.1)
    have f322 : Safe Z EL v0 h315 b314 := Safe.wr W315 f320 f317.1 f320
    refine g_stC X315 hx hZ0 Va315 (i := 1) (by decide) (by decide) (by decide) (Nat.le_of_ble_eq_true rfl) (y := (chr p1)) (chr_nar _) e315 (hb hby at_41) (q := 42) rfl ?_
    intro T318 h318 X318 e318 W318 V318
    have N318 := Fr.snoc X318 N315 gz316
    have Va318 : Arv Z h318 b314 k314 .char (2 : Int32) [(.int (chr p0)), (.int (chr p1))] (.int 0) := V318
    refine iLw X318 hx (hb hby at_42) (q := 44) rfl rfl ?_
    refine cI X318 hx (hb hby at_44) (q := 45) rfl (z := (2 : Int32)) rfl ?_
    refine icY X318 hx (hb hby at_45) (q := 58) (by decide) (by decide) (by decide) ?_
    refine g_new X318 hx hZ0 hown0 (wd1 hw) (wd2 hw) (wd3 hw) (by decide) (by decide) e318 (hb hby at_58) (q := 61) rfl ?_
    intro T323 h323 b323 g323 X323 e323 E323 A323 D323
    have sf324 : Safe Z EL v0 h318 b323 := Safe.new (Nat.le_of_eq g323.symm)
    have F323_27 := D323 (Or.inr (wd27 hw)) (ty := .byte) (by decide)
    have F323_29 := D323 (Or.inr (wd29 hw)) (ty := (.array .byte)) (by decide)
    refine g_dup X323 hx (hb hby at_61) (q := 62) rfl rfl ?_
    refine aLw X323 hx (hb hby at_62) (q := 64) rfl rfl rfl ?_
    have f326 : Old Z Z.heap.size h314 := O0.ext E314
    have f327 : Old Z Z.heap.size h315 := f326.wr W315 gz316
    have f328 : Old Z Z.heap.size h318 := f327.wr W318 gz316
    have f329 : Old Z Z.heap.size h323 := f328.ext E323
    have gz330 : Z.heap.size ≤ b323 := Nat.le_trans f328.2.1 (Nat.le_of_eq g323.symm)
    have f331 : Arv Z h323 b314 k314 .char (2 : Int32) [(.int (chr p0)), (.int (chr p1))] (.int 0) := Va318.ext E323
    refine g_sp X323 hx hZ0 hown0 (wd4 hw) (wd5 hw) (wd6 hw) rfl (by decide) e323 (StrChars.Road.backV (W := 1) hZ0 (own_wStr hw) (kI := 4) (wd2 hw) (cs := [(chr p0), (chr p1)]) (bs := ([(chr p0), (chr p1)].map (fun c => c.toInt8.toInt32))) (n := 2) gz330 f329.2.1 A323 F323_29 F323_27 f331 (SC.ext f329.2) PC rfl rfl (by decide) (by decide) (alS (chr_rng _) (alS (chr_rng _) al0)) rfl (by decide) (by decide)) (a := b323) (argsL := [.ref b314]) (W := 1) (nk := 1) (ns := 2) (Qc := StrChars.Road.QV Z b323 (2 : Int32) ([(chr p0), (chr p1)].map (fun c => c.toInt8.toInt32)) h323 Z.heap.size) (by rw [hml]; rfl) (lenOf pd9 rfl) rfl (Nat.le_of_eq rfl) (hb hby at_64) (q := 67) rfl (by decide) (by decide) ?_
    intro v325 T325 L325 X325 Q325
    obtain ⟨rfl, Nq325, K325q, E325q, C325q, t325, kb325, tz325, tg325, tn325, Fv325, Va325⟩ := Q325
    have N325 := Fr.app N318 Nq325
    show Go _ _ _ _ (T325.setTop (mkF m 67 #[.val (.int p0), .val (.int p1), .val (.int p2), .val (.int p3), .val (.int p4), .val (.int (2 : Int32)), .val (.ref b314), .unset, .unset, .unset] [(.ref b323)]))
    refine sAw X325 hx (hb hby at_67) (q := 69) rfl rfl (Ls' := #[.val (.int p0), .val (.int p1), .val (.int p2), .val (.int p3), .val (.int p4), .val (.int (2 : Int32)), .val (.ref b314), .val (.ref b323), .unset, .unset]) rfl ?_
    refine aLw X325 hx (hb hby at_69) (q := 71) rfl rfl rfl ?_
    have f360 : Exa Z h314 aE "java/util/ImmutableCollections$ListN" := PE1.ext E314
    have f361 : Exa Z h315 aE "java/util/ImmutableCollections$ListN" := f360.wr W315
    have f362 : Exa Z h318 aE "java/util/ImmutableCollections$ListN" := f361.wr W318
    have f363 : Exa Z h323 aE "java/util/ImmutableCollections$ListN" := f362.ext E323
    have f364 : Exa Z T325.heap aE "java/util/ImmutableCollections$ListN" := f363.keep K325q
    have f365 : Fld Z h314 aE "java/util/ImmutableCollections$ListN" "elements" "[Ljava/lang/Object;" (.ref eA) := PE2.ext E314
    have ne366 : aE ≠ b314 := (Nat.ne_of_lt (Nat.lt_of_lt_of_le (Nat.lt_of_lt_of_le PE1.lt (Nat.le_refl _)) (Nat.le_of_eq g314.symm)))
    have f367 : Fld Z h315 aE "java/util/ImmutableCollections$ListN" "elements" "[Ljava/lang/Object;" (.ref eA) := f365.other W315 (Or.inl ne366)
    have f368 : Fld Z h318 aE "java/util/ImmutableCollections$ListN" "elements" "[Ljava/lang/Object;" (.ref eA) := f367.other W318 (Or.inl ne366)
    have f369 : Fld Z h323 aE "java/util/ImmutableCollections$ListN" "elements" "[Ljava/lang/Object;" (.ref eA) := f368.ext E323
    have le370 : (h0).size ≤ (h314).size := E314.1
    have le371 : (h0).size ≤ (h315).size := (Nat.le_trans le370 (Nat.le_of_eq (Wr.size W315).symm))
    have le372 : (h0).size ≤ (h318).size := (Nat.le_trans le371 (Nat.le_of_eq (Wr.size W318).symm))
    have ne373 : aE ≠ b323 := (Nat.ne_of_lt (Nat.lt_of_lt_of_le (Nat.lt_of_lt_of_le PE1.lt le372) (Nat.le_of_eq g323.symm)))
    have f374 : Fld Z T325.heap aE "java/util/ImmutableCollections$ListN" "elements" "[Ljava/lang/Object;" (.ref eA) := f369.keep K325q (ninS ne373 nin0)
    have f375 : Arv Z h314 eA eK (.object "java/lang/Object") (0 : Int32) eL .null := PE3.ext E314
    have ne376 : eA ≠ b314 := (Nat.ne_of_lt (Nat.lt_of_lt_of_le (Nat.lt_of_lt_of_le PE3.lt (Nat.le_refl _)) (Nat.le_of_eq g314.symm)))
    have f377 : Arv Z h315 eA eK (.object "java/lang/Object") (0 : Int32) eL .null := f375.other W315 ne376
    have f378 : Arv Z h318 eA eK (.object "java/lang/Object") (0 : Int32) eL .null := f377.other W318 ne376
    have f379 : Arv Z h323 eA eK (.object "java/lang/Object") (0 : Int32) eL .null := f378.ext E323
    have ne380 : eA ≠ b323 := (Nat.ne_of_lt (Nat.lt_of_lt_of_le (Nat.lt_of_lt_of_le PE3.lt le372) (Nat.le_of_eq g323.symm)))
    have f381 : Arv Z T325.heap eA eK (.object "java/lang/Object") (0 : Int32) eL .null := f379.keep K325q (ninS ne380 nin0)
    have f382 : Fld Z h314 aE "java/util/ImmutableCollections$ListN" "allowNulls" "Z" (.int (0 : Int32)) := PE4.ext E314
    have f383 : Fld Z h315 aE "java/util/ImmutableCollections$ListN" "allowNulls" "Z" (.int (0 : Int32)) := f382.other W315 (Or.inl ne366)
    have f384 : Fld Z h318 aE "java/util/ImmutableCollections$ListN" "allowNulls" "Z" (.int (0 : Int32)) := f383.other W318 (Or.inl ne366)
    have f385 : Fld Z h323 aE "java/util/ImmutableCollections$ListN" "allowNulls" "Z" (.int (0 : Int32)) := f384.ext E323
    have f386 : Fld Z T325.heap aE "java/util/ImmutableCollections$ListN" "allowNulls" "Z" (.int (0 : Int32)) := f385.keep K325q (ninS ne373 nin0)
    have f387 : Old Z Z.heap.size T325.heap := f329.keep K325q (allS gz330 all0)
    refine g_st X325 hx hZ0 hown0 (wd30 hw) (wd31 hw) (wd32 hw) (wd33 hw) (by decide) rfl (Con.back (W := 0) (rm_submitted l Z a0 hw zC SC PC aE SE b323 eA eK eL T325.heap f387 f364 f374 f381 f386) hZ0 (wd33 hw) (wd32 hw) (by decide) (by decide)) (by rw [hml]; rfl) (lenOf pd10 rfl) rfl (Nat.le_of_eq rfl) (hb hby at_71) (q := 74) rfl (by decide) (by decide) ?_
    intro v359 T359 L359 X359 Q359
    obtain ⟨r_359, rfl, Nq359, K359q, q359_0, q359_1, q359_2, q359_3, q359_4, q359_5⟩ := Q359
    have N359 := Fr.app N325 Nq359
    show Go _ _ _ _ (T359.setTop (mkF m 74 #[.val (.int p0), .val (.int p1), .val (.int p2), .val (.int p3), .val (.int p4), .val (.int (2 : Int32)), .val (.ref b314), .val (.ref b323), .unset, .unset] [(.ref r_359)]))
    refine sAw X359 hx (hb hby at_74) (q := 76) rfl rfl (Ls' := #[.val (.int p0), .val (.int p1), .val (.int p2), .val (.int p3), .val (.int p4), .val (.int (2 : Int32)), .val (.ref b314), .val (.ref b323), .val (.ref r_359), .unset]) rfl ?_
    refine aLw X359 hx (hb hby at_76) (q := 78) rfl rfl rfl ?_
    have f389 : Old Z Z.heap.size T359.heap := f387.keep K359q all0
    refine g_vi X359 hx hZ0 hown0 (wd77 hw) (wd78 hw) (notFace_of_selects (args := #[]) (mvT hZ0 (wd80 hw))) (wd80 hw) (wd79 hw) (by decide) q359_1 rfl (Con.back (W := 0) (rm_get_submittedBy l Z a0 hw zC SC PC aE SE r_359 b323 T359.heap f389 q359_2) hZ0 (wd81 hw) (wd32 hw) (by decide) (by decide)) (by rw [hml]; rfl) (lenOf pd11 rfl) rfl (Nat.le_of_eq rfl) (hb hby at_78) (q := 81) rfl (by decide) (by decide) ?_
    intro v388 T388 L388 X388 Q388
    obtain ⟨rfl, Nq388, e388⟩ := Q388
    have N388 := Fr.app N359 Nq388
    show Go _ _ _ _ (T388.setTop (mkF m 81 #[.val (.int p0), .val (.int p1), .val (.int p2), .val (.int p3), .val (.int p4), .val (.int (2 : Int32)), .val (.ref b314), .val (.ref b323), .val (.ref r_359), .unset] [(.ref b323)]))
    refine sAw X388 hx (hb hby at_81) (q := 83) rfl rfl (Ls' := #[.val (.int p0), .val (.int p1), .val (.int p2), .val (.int p3), .val (.int p4), .val (.int (2 : Int32)), .val (.ref b314), .val (.ref b323), .val (.ref r_359), .val (.ref b323)]) rfl ?_
    refine aLw X388 hx (hb hby at_83) (q := 85) rfl rfl rfl ?_
    refine nlN X388 hx (hb hby at_85) (q := 88) rfl ?_
    refine aLw X388 hx (hb hby at_88) (q := 90) rfl rfl rfl ?_
    refine aLw X388 hx (hb hby at_90) (q := 92) rfl rfl rfl ?_
    have f391 : Exa Z T359.heap b323 "java/lang/String" := E325q.keep K359q
    refine g_vi X388 hx hZ0 hown0 (wd82 hw) (wd83 hw) (notFace_of_selects (args := #[]) (mvT hZ0 (wd85 hw))) (wd85 hw) (wd84 hw) (by decide) f391 e388 (Con.back (W := 0) (rm_eqid l Z a0 hw zC SC PC aE SE b323 T359.heap f389 ) hZ0 (wd86 hw) (wd3 hw) (by decide) (by decide)) (by rw [hml]; rfl) (lenOf pd12 rfl) rfl (Nat.le_of_eq rfl) (hb hby at_92) (q := 95) rfl (by decide) (by decide) ?_
    intro v390 T390 L390 X390 Q390
    obtain ⟨rfl, Nq390, e390⟩ := Q390
    have N390 := Fr.app N388 Nq390
    show Go _ _ _ _ (T390.setTop (mkF m 95 #[.val (.int p0), .val (.int p1), .val (.int p2), .val (.int p3), .val (.int p4), .val (.int (2 : Int32)), .val (.ref b314), .val (.ref b323), .val (.ref r_359), .val (.ref b323)] [(.int (1 : Int32))]))
    refine ifY X390 hx (hb hby at_95) (q := 100) (by decide) (by decide) (by decide) ?_
    refine aLw X390 hx (hb hby at_100) (q := 102) rfl rfl rfl ?_
    refine g_vi X390 hx hZ0 hown0 (wd87 hw) (wd88 hw) (notFace_of_selects (args := #[]) (mvT hZ0 (wd90 hw))) (wd90 hw) (wd89 hw) (by decide) q359_1 e390 (Con.back (W := 0) (rm_get_leftOut l Z a0 hw zC SC PC aE SE r_359 aE T359.heap f389 q359_3) hZ0 (wd91 hw) (wd32 hw) (by decide) (by decide)) (by rw [hml]; rfl) (lenOf pd3 rfl) rfl (Nat.le_of_eq rfl) (hb hby at_102) (q := 105) rfl (by decide) (by decide) ?_
    intro v392 T392 L392 X392 Q392
    obtain ⟨rfl, Nq392, e392⟩ := Q392
    have N392 := Fr.app N390 Nq392
    show Go _ _ _ _ (T392.setTop (mkF m 105 #[.val (.int p0), .val (.int p1), .val (.int p2), .val (.int p3), .val (.int p4), .val (.int (2 : Int32)), .val (.ref b314), .val (.ref b323), .val (.ref r_359), .val (.ref b323)] [(.ref aE)]))
    have f398 : Exa Z T359.heap aE "java/util/ImmutableCollections$ListN" := f364.keep K359q
    have f399 : Fld Z T359.heap aE "java/util/ImmutableCollections$ListN" "elements" "[Ljava/lang/Object;" (.ref eA) := f374.keep K359q nin0
    have f400 : Arv Z T359.heap eA eK (.object "java/lang/Object") (0 : Int32) eL .null := f381.keep K359q nin0
    have f401 : Fld Z T359.heap aE "java/util/ImmutableCollections$ListN" "allowNulls" "Z" (.int (0 : Int32)) := f386.keep K359q nin0
    refine g_if X392 hx hZ0 hown0 (wd92 hw) (wd93 hw) (wd94 hw) rfl (wd95 hw) (wd96 hw) (wd97 hw) (wd98 hw) (wd68 hw) (by decide) f398 e392 (Con.back (W := 0) (rm_lnsize l Z a0 hw zC SC PC aE SE eA eK eL T359.heap f389 f398 f399 f400 f401) hZ0 (wd100 hw) (wd99 hw) (by decide) (by decide)) (by rw [hml]; rfl) (lenOf pd5 rfl) rfl (Nat.le_of_eq rfl) (hb hby at_105) (q := 110) rfl (by decide) (by decide) ?_
    intro v397 T397 L397 X397 Q397
    obtain ⟨rfl, Nq397, e397⟩ := Q397
    have N397 := Fr.app N392 Nq397
    show Go _ _ _ _ (T397.setTop (mkF m 110 #[.val (.int p0), .val (.int p1), .val (.int p2), .val (.int p3), .val (.int p4), .val (.int (2 : Int32)), .val (.ref b314), .val (.ref b323), .val (.ref r_359), .val (.ref b323)] [(.int (0 : Int32))]))
    refine ifY X397 hx (hb hby at_110) (q := 115) (by decide) (by decide) (by decide) ?_
    refine aLw X397 hx (hb hby at_115) (q := 117) rfl rfl rfl ?_
    refine g_vi X397 hx hZ0 hown0 (wd103 hw) (wd104 hw) (notFace_of_selects (args := #[]) (mvT hZ0 (wd106 hw))) (wd106 hw) (wd105 hw) (by decide) q359_1 e397 (Con.back (W := 0) (rm_get_signedOffBy l Z a0 hw zC SC PC aE SE r_359 T359.heap f389 q359_4) hZ0 (wd107 hw) (wd32 hw) (by decide) (by decide)) (by rw [hml]; rfl) (lenOf pd11 rfl) rfl (Nat.le_of_eq rfl) (hb hby at_117) (q := 120) rfl (by decide) (by decide) ?_
    intro v402 T402 L402 X402 Q402
    obtain ⟨rfl, Nq402, e402⟩ := Q402
    have N402 := Fr.app N397 Nq402
    show Go _ _ _ _ (T402.setTop (mkF m 120 #[.val (.int p0), .val (.int p1), .val (.int p2), .val (.int p3), .val (.int p4), .val (.int (2 : Int32)), .val (.ref b314), .val (.ref b323), .val (.ref r_359), .val (.ref b323)] [.null]))
    refine nlY X402 hx (hb hby at_120) (q := 125) (by decide) (by decide) ?_
    refine aLw X402 hx (hb hby at_125) (q := 127) rfl rfl rfl ?_
    refine g_vi X402 hx hZ0 hown0 (wd108 hw) (wd109 hw) (notFace_of_selects (args := #[]) (mvT hZ0 (wd111 hw))) (wd111 hw) (wd110 hw) (by decide) q359_1 e402 (Con.back (W := 0) (rm_get_withdrawn l Z a0 hw zC SC PC aE SE r_359 T359.heap f389 q359_5) hZ0 (wd112 hw) (wd32 hw) (by decide) (by decide)) (by rw [hml]; rfl) (lenOf pd13 rfl) rfl (Nat.le_of_eq rfl) (hb hby at_127) (q := 130) rfl (by decide) (by decide) ?_
    intro v403 T403 L403 X403 Q403
    obtain ⟨rfl, Nq403, e403⟩ := Q403
    have N403 := Fr.app N402 Nq403
    show Go _ _ _ _ (T403.setTop (mkF m 130 #[.val (.int p0), .val (.int p1), .val (.int p2), .val (.int p3), .val (.int p4), .val (.int (2 : Int32)), .val (.ref b314), .val (.ref b323), .val (.ref r_359), .val (.ref b323)] [.null]))
    refine nlY X403 hx (hb hby at_130) (q := 135) (by decide) (by decide) ?_
    refine aLw X403 hx (hb hby at_135) (q := 137) rfl rfl rfl ?_
    refine iLw X403 hx (hb hby at_137) (q := 139) rfl rfl ?_
    refine g_vi X403 hx hZ0 hown0 (wd113 hw) (wd114 hw) (notFace_of_selects (args := #[]) (mvT hZ0 (wd116 hw))) (wd116 hw) (wd115 hw) (by decide) q359_1 e403 (Con.back (W := 0) (rm_leftoutI l Z a0 hw zC SC PC aE SE r_359 p4 eA eK eL T359.heap f389 f398 f399 f400 f401 q359_3) hZ0 (wd117 hw) (wd32 hw) (by decide) (by decide)) (by rw [hml]; rfl) (lenOf pd14 rfl) rfl (Nat.le_of_eq rfl) (hb hby at_139) (q := 142) rfl (by decide) (by decide) ?_
    intro v404 T404 L404 X404 Q404
    obtain ⟨rfl, Nq404, K404q⟩ := Q404
    have N404 := Fr.app N403 Nq404
    show Go _ _ _ _ (T404.setTop (mkF m 142 #[.val (.int p0), .val (.int p1), .val (.int p2), .val (.int p3), .val (.int p4), .val (.int (2 : Int32)), .val (.ref b314), .val (.ref b323), .val (.ref r_359), .val (.ref b323)] [.null]))
    refine nnN X404 hx (hb hby at_142) (q := 145) rfl ?_
    refine cI X404 hx (hb hby at_145) (q := 146) rfl (z := (1 : Int32)) rfl ?_
    refine g_goto X404 hx (hb hby at_146) (q := 150) (by decide) (by decide) ?_
    have K405 : Keep h0 h314 [] := (Keep.refl h0 []).ext E314
    have gh406 : h0.size ≤ b314 := Nat.le_trans (Nat.le_refl _) (Nat.le_of_eq g314.symm)
    have K407 : Keep h0 h315 [] := K405.wr W315 (Or.inr gh406)
    have K408 : Keep h0 h318 [] := K407.wr W318 (Or.inr gh406)
    have K409 : Keep h0 h323 [] := K408.ext E323
    have gh410 : h0.size ≤ b323 := Nat.le_trans le372 (Nat.le_of_eq g323.symm)
    have K411 : Keep h0 T325.heap [] := K409.trans K325q (allS (Or.inr gh410) all0)
    have K412 : Keep h0 T359.heap [] := K411.trans K359q all0
    have K413 : Keep h0 T404.heap [] := K412.trans K404q all0
    have f414 : CHr Z EL s.vm s.heap v0 h318 := f321.trans (CHr.wr W318 f322 f321.1)
    have f415 : CHr Z EL s.vm s.heap v0 h323 := f414.trans (CHr.ext E323 f414.1)
    have f416 : Safe Z EL v0 h323 b323 := Safe.ext E323 f414.1 sf324
    have f417 : CHr Z EL s.vm s.heap v0 T325.heap := f415.trans (CHr.keep K325q (sfS f416 sf0) f415.1)
    have f418 : CHr Z EL s.vm s.heap v0 T359.heap := f417.trans (CHr.keep K359q sf0 f417.1)
    have f419 : CHr Z EL s.vm s.heap v0 T404.heap := f418.trans (CHr.keep K404q sf0 f418.1)
    refine endC X404 hlk hS0 (Nat.zero_le _) hZ0 (own_EW hw) f419 (fun h => by rw [hret] at h; cases h) (lastN X404 hx (t := .boolean) (z' := (1 : Int32)) hret (by simp) (by decide) (hb hby at_150)) ?_ (by decide) (by decide)
    exact ⟨rfl, N404, K413⟩
  · rw [hk146]
    show Go _ _ _ _ (T0.setTop (mkF m 3 #[.val (.int p0), .val (.int p1), .val (.int p2), .val (.int p3), .val (.int p4), .unset, .unset, .unset, .unset, .unset] [(.int (3 : Int32))]))
    refine sIw X0 hx (hb hby at_3) (q := 5) rfl (Ls' := #[.val (.int p0), .val (.int p1), .val (.int p2), .val (.int p3), .val (.int p4), .val (.int (3 : Int32)), .unset, .unset, .unset, .unset]) rfl ?_
    refine iLw X0 hx (hb hby at_5) (q := 7) rfl rfl ?_
    refine g_newA X0 hx hZ0 (aty := .char) (wd0 hw) (by decide) (n := 3) (by decide) (by decide) (by decide) (by decide) e0 (hb hby at_7) (q := 9) rfl ?_
    intro T420 h420 k420 b420 g420 X420 e420 E420 V420
    have Va420 : Arv Z h420 b420 k420 .char (3 : Int32) [(.int (0 : Int32)), (.int (0 : Int32)), (.int (0 : Int32))] (.int 0) := V420
    refine sAw X420 hx (hb hby at_9) (q := 11) rfl rfl (Ls' := #[.val (.int p0), .val (.int p1), .val (.int p2), .val (.int p3), .val (.int p4), .val (.int (3 : Int32)), .val (.ref b420), .unset, .unset, .unset]) rfl ?_
    refine iLw X420 hx (hb hby at_11) (q := 13) rfl rfl ?_
    refine ifN X420 hx (hb hby at_13) (q := 16) rfl (by decide) ?_
    refine aLw X420 hx (hb hby at_16) (q := 18) rfl rfl rfl ?_
    refine cI X420 hx (hb hby at_18) (q := 19) rfl (z := (0 : Int32)) rfl ?_
    refine iL X420 hx (hb hby at_19) (q := 20) rfl rfl ?_
    refine pI X420 hx (hb hby at_20) (q := 23) rfl (z := (255 : Int32)) rfl ?_
    refine g_iand X420 hx (hb hby at_23) (q := 24) rfl rfl ?_
    refine g_i2c X420 hx (hb hby at_24) (q := 25) rfl (z := (chr p0)) rfl ?_
    have gz422 : Z.heap.size ≤ b420 := Nat.le_trans O0.2.1 (Nat.le_of_eq g420.symm)
    have f423 : CHr Z EL s.vm s.heap v0 h420 := C0.trans (CHr.ext E420 C0.1)
    refine g_stC X420 hx hZ0 Va420 (i := 0) (by decide) (by decide) (by decide) (Nat.le_of_ble_eq_true rfl) (y := (chr p0)) (chr_nar _) e420 (hb hby at_25) (q := 26) rfl ?_
    intro T421 h421 X421 e421 W421 V421
    have N421 := Fr.snoc X421 N0 gz422
    have Va421 : Arv Z h421 b420 k420 .char (3 : Int32) [(.int (chr p0)), (.int (0 : Int32)), (.int (0 : Int32))] (.int 0) := V421
    refine iLw X421 hx (hb hby at_26) (q := 28) rfl rfl ?_
    refine cI X421 hx (hb hby at_28) (q := 29) rfl (z := (1 : Int32)) rfl ?_
    refine icN X421 hx (hb hby at_29) (q := 32) rfl (by decide) ?_
    refine aLw X421 hx (hb hby at_32) (q := 34) rfl rfl rfl ?_
    refine cI X421 hx (hb hby at_34) (q := 35) rfl (z := (1 : Int32)) rfl ?_
    refine iL X421 hx (hb hby at_35) (q := 36) rfl rfl ?_
    refine pI X421 hx (hb hby at_36) (q := 39) rfl (z := (255 : Int32)) rfl ?_
    refine g_iand X421 hx (hb hby at_39) (q := 40) rfl rfl ?_
    refine g_i2c X421 hx (hb hby at_40) (q := 41) rfl (z := (chr p1)) rfl ?_
    have sf425 : Safe Z EL v0 h0 b420 := Safe.new (Nat.le_of_eq g420.symm)
    have f426 : Safe Z EL v0 h420 b420 := Safe.ext E420 C0.1 sf425
    have f427 : CHr Z EL s.vm s.heap v0 h421 := f423.trans (CHr.wr W421 f426 f423.1)
    have f428 : Safe Z EL v0 h421 b420 := Safe.wr W421 f426 f423.1 f426
    refine g_stC X421 hx hZ0 Va421 (i := 1) (by decide) (by decide) (by decide) (Nat.le_of_ble_eq_true rfl) (y := (chr p1)) (chr_nar _) e421 (hb hby at_41) (q := 42) rfl ?_
    intro T424 h424 X424 e424 W424 V424
    have N424 := Fr.snoc X424 N421 gz422
    have Va424 : Arv Z h424 b420 k420 .char (3 : Int32) [(.int (chr p0)), (.int (chr p1)), (.int (0 : Int32))] (.int 0) := V424
    refine iLw X424 hx (hb hby at_42) (q := 44) rfl rfl ?_
    refine cI X424 hx (hb hby at_44) (q := 45) rfl (z := (2 : Int32)) rfl ?_
    refine icN X424 hx (hb hby at_45) (q := 48) rfl (by decide) ?_
    refine aLw X424 hx (hb hby at_48) (q := 50) rfl rfl rfl ?_
    refine cI X424 hx (hb hby at_50) (q := 51) rfl (z := (2 : Int32)) rfl ?_
    refine iL X424 hx (hb hby at_51) (q := 52) rfl rfl ?_
    refine pI X424 hx (hb hby at_52) (q := 55) rfl (z := (255 : Int32)) rfl ?_
    refine g_iand X424 hx (hb hby at_55) (q := 56) rfl rfl ?_
    refine g_i2c X424 hx (hb hby at_56) (q := 57) rfl (z := (chr p2)) rfl ?_
    have f430 : CHr Z EL s.vm s.heap v0 h424 := f427.trans (CHr.wr W424 f428 f427.1)
    have f431 : Safe Z EL v0 h424 b420 := Safe.wr W424 f428 f427.1 f428
    refine g_stC X424 hx hZ0 Va424 (i := 2) (by decide) (by decide) (by decide) (Nat.le_of_ble_eq_true rfl) (y := (chr p2)) (chr_nar _) e424 (hb hby at_57) (q := 58) rfl ?_
    intro T429 h429 X429 e429 W429 V429
    have N429 := Fr.snoc X429 N424 gz422
    have Va429 : Arv Z h429 b420 k420 .char (3 : Int32) [(.int (chr p0)), (.int (chr p1)), (.int (chr p2))] (.int 0) := V429
    refine g_new X429 hx hZ0 hown0 (wd1 hw) (wd2 hw) (wd3 hw) (by decide) (by decide) e429 (hb hby at_58) (q := 61) rfl ?_
    intro T432 h432 b432 g432 X432 e432 E432 A432 D432
    have sf433 : Safe Z EL v0 h429 b432 := Safe.new (Nat.le_of_eq g432.symm)
    have F432_27 := D432 (Or.inr (wd27 hw)) (ty := .byte) (by decide)
    have F432_29 := D432 (Or.inr (wd29 hw)) (ty := (.array .byte)) (by decide)
    refine g_dup X432 hx (hb hby at_61) (q := 62) rfl rfl ?_
    refine aLw X432 hx (hb hby at_62) (q := 64) rfl rfl rfl ?_
    have f435 : Old Z Z.heap.size h420 := O0.ext E420
    have f436 : Old Z Z.heap.size h421 := f435.wr W421 gz422
    have f437 : Old Z Z.heap.size h424 := f436.wr W424 gz422
    have f438 : Old Z Z.heap.size h429 := f437.wr W429 gz422
    have f439 : Old Z Z.heap.size h432 := f438.ext E432
    have gz440 : Z.heap.size ≤ b432 := Nat.le_trans f438.2.1 (Nat.le_of_eq g432.symm)
    have f441 : Arv Z h432 b420 k420 .char (3 : Int32) [(.int (chr p0)), (.int (chr p1)), (.int (chr p2))] (.int 0) := Va429.ext E432
    refine g_sp X432 hx hZ0 hown0 (wd4 hw) (wd5 hw) (wd6 hw) rfl (by decide) e432 (StrChars.Road.backV (W := 1) hZ0 (own_wStr hw) (kI := 4) (wd2 hw) (cs := [(chr p0), (chr p1), (chr p2)]) (bs := ([(chr p0), (chr p1), (chr p2)].map (fun c => c.toInt8.toInt32))) (n := 3) gz440 f439.2.1 A432 F432_29 F432_27 f441 (SC.ext f439.2) PC rfl rfl (by decide) (by decide) (alS (chr_rng _) (alS (chr_rng _) (alS (chr_rng _) al0))) rfl (by decide) (by decide)) (a := b432) (argsL := [.ref b420]) (W := 1) (nk := 1) (ns := 3) (Qc := StrChars.Road.QV Z b432 (3 : Int32) ([(chr p0), (chr p1), (chr p2)].map (fun c => c.toInt8.toInt32)) h432 Z.heap.size) (by rw [hml]; rfl) (lenOf pd9 rfl) rfl (Nat.le_of_eq rfl) (hb hby at_64) (q := 67) rfl (by decide) (by decide) ?_
    intro v434 T434 L434 X434 Q434
    obtain ⟨rfl, Nq434, K434q, E434q, C434q, t434, kb434, tz434, tg434, tn434, Fv434, Va434⟩ := Q434
    have N434 := Fr.app N429 Nq434
    show Go _ _ _ _ (T434.setTop (mkF m 67 #[.val (.int p0), .val (.int p1), .val (.int p2), .val (.int p3), .val (.int p4), .val (.int (3 : Int32)), .val (.ref b420), .unset, .unset, .unset] [(.ref b432)]))
    refine sAw X434 hx (hb hby at_67) (q := 69) rfl rfl (Ls' := #[.val (.int p0), .val (.int p1), .val (.int p2), .val (.int p3), .val (.int p4), .val (.int (3 : Int32)), .val (.ref b420), .val (.ref b432), .unset, .unset]) rfl ?_
    refine aLw X434 hx (hb hby at_69) (q := 71) rfl rfl rfl ?_
    have f475 : Exa Z h420 aE "java/util/ImmutableCollections$ListN" := PE1.ext E420
    have f476 : Exa Z h421 aE "java/util/ImmutableCollections$ListN" := f475.wr W421
    have f477 : Exa Z h424 aE "java/util/ImmutableCollections$ListN" := f476.wr W424
    have f478 : Exa Z h429 aE "java/util/ImmutableCollections$ListN" := f477.wr W429
    have f479 : Exa Z h432 aE "java/util/ImmutableCollections$ListN" := f478.ext E432
    have f480 : Exa Z T434.heap aE "java/util/ImmutableCollections$ListN" := f479.keep K434q
    have f481 : Fld Z h420 aE "java/util/ImmutableCollections$ListN" "elements" "[Ljava/lang/Object;" (.ref eA) := PE2.ext E420
    have ne482 : aE ≠ b420 := (Nat.ne_of_lt (Nat.lt_of_lt_of_le (Nat.lt_of_lt_of_le PE1.lt (Nat.le_refl _)) (Nat.le_of_eq g420.symm)))
    have f483 : Fld Z h421 aE "java/util/ImmutableCollections$ListN" "elements" "[Ljava/lang/Object;" (.ref eA) := f481.other W421 (Or.inl ne482)
    have f484 : Fld Z h424 aE "java/util/ImmutableCollections$ListN" "elements" "[Ljava/lang/Object;" (.ref eA) := f483.other W424 (Or.inl ne482)
    have f485 : Fld Z h429 aE "java/util/ImmutableCollections$ListN" "elements" "[Ljava/lang/Object;" (.ref eA) := f484.other W429 (Or.inl ne482)
    have f486 : Fld Z h432 aE "java/util/ImmutableCollections$ListN" "elements" "[Ljava/lang/Object;" (.ref eA) := f485.ext E432
    have le487 : (h0).size ≤ (h420).size := E420.1
    have le488 : (h0).size ≤ (h421).size := (Nat.le_trans le487 (Nat.le_of_eq (Wr.size W421).symm))
    have le489 : (h0).size ≤ (h424).size := (Nat.le_trans le488 (Nat.le_of_eq (Wr.size W424).symm))
    have le490 : (h0).size ≤ (h429).size := (Nat.le_trans le489 (Nat.le_of_eq (Wr.size W429).symm))
    have ne491 : aE ≠ b432 := (Nat.ne_of_lt (Nat.lt_of_lt_of_le (Nat.lt_of_lt_of_le PE1.lt le490) (Nat.le_of_eq g432.symm)))
    have f492 : Fld Z T434.heap aE "java/util/ImmutableCollections$ListN" "elements" "[Ljava/lang/Object;" (.ref eA) := f486.keep K434q (ninS ne491 nin0)
    have f493 : Arv Z h420 eA eK (.object "java/lang/Object") (0 : Int32) eL .null := PE3.ext E420
    have ne494 : eA ≠ b420 := (Nat.ne_of_lt (Nat.lt_of_lt_of_le (Nat.lt_of_lt_of_le PE3.lt (Nat.le_refl _)) (Nat.le_of_eq g420.symm)))
    have f495 : Arv Z h421 eA eK (.object "java/lang/Object") (0 : Int32) eL .null := f493.other W421 ne494
    have f496 : Arv Z h424 eA eK (.object "java/lang/Object") (0 : Int32) eL .null := f495.other W424 ne494
    have f497 : Arv Z h429 eA eK (.object "java/lang/Object") (0 : Int32) eL .null := f496.other W429 ne494
    have f498 : Arv Z h432 eA eK (.object "java/lang/Object") (0 : Int32) eL .null := f497.ext E432
    have ne499 : eA ≠ b432 := (Nat.ne_of_lt (Nat.lt_of_lt_of_le (Nat.lt_of_lt_of_le PE3.lt le490) (Nat.le_of_eq g432.symm)))
    have f500 : Arv Z T434.heap eA eK (.object "java/lang/Object") (0 : Int32) eL .null := f498.keep K434q (ninS ne499 nin0)
    have f501 : Fld Z h420 aE "java/util/ImmutableCollections$ListN" "allowNulls" "Z" (.int (0 : Int32)) := PE4.ext E420
    have f502 : Fld Z h421 aE "java/util/ImmutableCollections$ListN" "allowNulls" "Z" (.int (0 : Int32)) := f501.other W421 (Or.inl ne482)
    have f503 : Fld Z h424 aE "java/util/ImmutableCollections$ListN" "allowNulls" "Z" (.int (0 : Int32)) := f502.other W424 (Or.inl ne482)
    have f504 : Fld Z h429 aE "java/util/ImmutableCollections$ListN" "allowNulls" "Z" (.int (0 : Int32)) := f503.other W429 (Or.inl ne482)
    have f505 : Fld Z h432 aE "java/util/ImmutableCollections$ListN" "allowNulls" "Z" (.int (0 : Int32)) := f504.ext E432
    have f506 : Fld Z T434.heap aE "java/util/ImmutableCollections$ListN" "allowNulls" "Z" (.int (0 : Int32)) := f505.keep K434q (ninS ne491 nin0)
    have f507 : Old Z Z.heap.size T434.heap := f439.keep K434q (allS gz440 all0)
    refine g_st X434 hx hZ0 hown0 (wd30 hw) (wd31 hw) (wd32 hw) (wd33 hw) (by decide) rfl (Con.back (W := 0) (rm_submitted l Z a0 hw zC SC PC aE SE b432 eA eK eL T434.heap f507 f480 f492 f500 f506) hZ0 (wd33 hw) (wd32 hw) (by decide) (by decide)) (by rw [hml]; rfl) (lenOf pd10 rfl) rfl (Nat.le_of_eq rfl) (hb hby at_71) (q := 74) rfl (by decide) (by decide) ?_
    intro v474 T474 L474 X474 Q474
    obtain ⟨r_474, rfl, Nq474, K474q, q474_0, q474_1, q474_2, q474_3, q474_4, q474_5⟩ := Q474
    have N474 := Fr.app N434 Nq474
    show Go _ _ _ _ (T474.setTop (mkF m 74 #[.val (.int p0), .val (.int p1), .val (.int p2), .val (.int p3), .val (.int p4), .val (.int (3 : Int32)), .val (.ref b420), .val (.ref b432), .unset, .unset] [(.ref r_474)]))
    refine sAw X474 hx (hb hby at_74) (q := 76) rfl rfl (Ls' := #[.val (.int p0), .val (.int p1), .val (.int p2), .val (.int p3), .val (.int p4), .val (.int (3 : Int32)), .val (.ref b420), .val (.ref b432), .val (.ref r_474), .unset]) rfl ?_
    refine aLw X474 hx (hb hby at_76) (q := 78) rfl rfl rfl ?_
    have f509 : Old Z Z.heap.size T474.heap := f507.keep K474q all0
    refine g_vi X474 hx hZ0 hown0 (wd77 hw) (wd78 hw) (notFace_of_selects (args := #[]) (mvT hZ0 (wd80 hw))) (wd80 hw) (wd79 hw) (by decide) q474_1 rfl (Con.back (W := 0) (rm_get_submittedBy l Z a0 hw zC SC PC aE SE r_474 b432 T474.heap f509 q474_2) hZ0 (wd81 hw) (wd32 hw) (by decide) (by decide)) (by rw [hml]; rfl) (lenOf pd11 rfl) rfl (Nat.le_of_eq rfl) (hb hby at_78) (q := 81) rfl (by decide) (by decide) ?_
    intro v508 T508 L508 X508 Q508
    obtain ⟨rfl, Nq508, e508⟩ := Q508
    have N508 := Fr.app N474 Nq508
    show Go _ _ _ _ (T508.setTop (mkF m 81 #[.val (.int p0), .val (.int p1), .val (.int p2), .val (.int p3), .val (.int p4), .val (.int (3 : Int32)), .val (.ref b420), .val (.ref b432), .val (.ref r_474), .unset] [(.ref b432)]))
    refine sAw X508 hx (hb hby at_81) (q := 83) rfl rfl (Ls' := #[.val (.int p0), .val (.int p1), .val (.int p2), .val (.int p3), .val (.int p4), .val (.int (3 : Int32)), .val (.ref b420), .val (.ref b432), .val (.ref r_474), .val (.ref b432)]) rfl ?_
    refine aLw X508 hx (hb hby at_83) (q := 85) rfl rfl rfl ?_
    refine nlN X508 hx (hb hby at_85) (q := 88) rfl ?_
    refine aLw X508 hx (hb hby at_88) (q := 90) rfl rfl rfl ?_
    refine aLw X508 hx (hb hby at_90) (q := 92) rfl rfl rfl ?_
    have f511 : Exa Z T474.heap b432 "java/lang/String" := E434q.keep K474q
    refine g_vi X508 hx hZ0 hown0 (wd82 hw) (wd83 hw) (notFace_of_selects (args := #[]) (mvT hZ0 (wd85 hw))) (wd85 hw) (wd84 hw) (by decide) f511 e508 (Con.back (W := 0) (rm_eqid l Z a0 hw zC SC PC aE SE b432 T474.heap f509 ) hZ0 (wd86 hw) (wd3 hw) (by decide) (by decide)) (by rw [hml]; rfl) (lenOf pd12 rfl) rfl (Nat.le_of_eq rfl) (hb hby at_92) (q := 95) rfl (by decide) (by decide) ?_
    intro v510 T510 L510 X510 Q510
    obtain ⟨rfl, Nq510, e510⟩ := Q510
    have N510 := Fr.app N508 Nq510
    show Go _ _ _ _ (T510.setTop (mkF m 95 #[.val (.int p0), .val (.int p1), .val (.int p2), .val (.int p3), .val (.int p4), .val (.int (3 : Int32)), .val (.ref b420), .val (.ref b432), .val (.ref r_474), .val (.ref b432)] [(.int (1 : Int32))]))
    refine ifY X510 hx (hb hby at_95) (q := 100) (by decide) (by decide) (by decide) ?_
    refine aLw X510 hx (hb hby at_100) (q := 102) rfl rfl rfl ?_
    refine g_vi X510 hx hZ0 hown0 (wd87 hw) (wd88 hw) (notFace_of_selects (args := #[]) (mvT hZ0 (wd90 hw))) (wd90 hw) (wd89 hw) (by decide) q474_1 e510 (Con.back (W := 0) (rm_get_leftOut l Z a0 hw zC SC PC aE SE r_474 aE T474.heap f509 q474_3) hZ0 (wd91 hw) (wd32 hw) (by decide) (by decide)) (by rw [hml]; rfl) (lenOf pd3 rfl) rfl (Nat.le_of_eq rfl) (hb hby at_102) (q := 105) rfl (by decide) (by decide) ?_
    intro v512 T512 L512 X512 Q512
    obtain ⟨rfl, Nq512, e512⟩ := Q512
    have N512 := Fr.app N510 Nq512
    show Go _ _ _ _ (T512.setTop (mkF m 105 #[.val (.int p0), .val (.int p1), .val (.int p2), .val (.int p3), .val (.int p4), .val (.int (3 : Int32)), .val (.ref b420), .val (.ref b432), .val (.ref r_474), .val (.ref b432)] [(.ref aE)]))
    have f518 : Exa Z T474.heap aE "java/util/ImmutableCollections$ListN" := f480.keep K474q
    have f519 : Fld Z T474.heap aE "java/util/ImmutableCollections$ListN" "elements" "[Ljava/lang/Object;" (.ref eA) := f492.keep K474q nin0
    have f520 : Arv Z T474.heap eA eK (.object "java/lang/Object") (0 : Int32) eL .null := f500.keep K474q nin0
    have f521 : Fld Z T474.heap aE "java/util/ImmutableCollections$ListN" "allowNulls" "Z" (.int (0 : Int32)) := f506.keep K474q nin0
    refine g_if X512 hx hZ0 hown0 (wd92 hw) (wd93 hw) (wd94 hw) rfl (wd95 hw) (wd96 hw) (wd97 hw) (wd98 hw) (wd68 hw) (by decide) f518 e512 (Con.back (W := 0) (rm_lnsize l Z a0 hw zC SC PC aE SE eA eK eL T474.heap f509 f518 f519 f520 f521) hZ0 (wd100 hw) (wd99 hw) (by decide) (by decide)) (by rw [hml]; rfl) (lenOf pd5 rfl) rfl (Nat.le_of_eq rfl) (hb hby at_105) (q := 110) rfl (by decide) (by decide) ?_
    intro v517 T517 L517 X517 Q517
    obtain ⟨rfl, Nq517, e517⟩ := Q517
    have N517 := Fr.app N512 Nq517
    show Go _ _ _ _ (T517.setTop (mkF m 110 #[.val (.int p0), .val (.int p1), .val (.int p2), .val (.int p3), .val (.int p4), .val (.int (3 : Int32)), .val (.ref b420), .val (.ref b432), .val (.ref r_474), .val (.ref b432)] [(.int (0 : Int32))]))
    refine ifY X517 hx (hb hby at_110) (q := 115) (by decide) (by decide) (by decide) ?_
    refine aLw X517 hx (hb hby at_115) (q := 117) rfl rfl rfl ?_
    refine g_vi X517 hx hZ0 hown0 (wd103 hw) (wd104 hw) (notFace_of_selects (args := #[]) (mvT hZ0 (wd106 hw))) (wd106 hw) (wd105 hw) (by decide) q474_1 e517 (Con.back (W := 0) (rm_get_signedOffBy l Z a0 hw zC SC PC aE SE r_474 T474.heap f509 q474_4) hZ0 (wd107 hw) (wd32 hw) (by decide) (by decide)) (by rw [hml]; rfl) (lenOf pd11 rfl) rfl (Nat.le_of_eq rfl) (hb hby at_117) (q := 120) rfl (by decide) (by decide) ?_
    intro v522 T522 L522 X522 Q522
    obtain ⟨rfl, Nq522, e522⟩ := Q522
    have N522 := Fr.app N517 Nq522
    show Go _ _ _ _ (T522.setTop (mkF m 120 #[.val (.int p0), .val (.int p1), .val (.int p2), .val (.int p3), .val (.int p4), .val (.int (3 : Int32)), .val (.ref b420), .val (.ref b432), .val (.ref r_474), .val (.ref b432)] [.null]))
    refine nlY X522 hx (hb hby at_120) (q := 125) (by decide) (by decide) ?_
    refine aLw X522 hx (hb hby at_125) (q := 127) rfl rfl rfl ?_
    refine g_vi X522 hx hZ0 hown0 (wd108 hw) (wd109 hw) (notFace_of_selects (args := #[]) (mvT hZ0 (wd111 hw))) (wd111 hw) (wd110 hw) (by decide) q474_1 e522 (Con.back (W := 0) (rm_get_withdrawn l Z a0 hw zC SC PC aE SE r_474 T474.heap f509 q474_5) hZ0 (wd112 hw) (wd32 hw) (by decide) (by decide)) (by rw [hml]; rfl) (lenOf pd13 rfl) rfl (Nat.le_of_eq rfl) (hb hby at_127) (q := 130) rfl (by decide) (by decide) ?_
    intro v523 T523 L523 X523 Q523
    obtain ⟨rfl, Nq523, e523⟩ := Q523
    have N523 := Fr.app N522 Nq523
    show Go _ _ _ _ (T523.setTop (mkF m 130 #[.val (.int p0), .val (.int p1), .val (.int p2), .val (.int p3), .val (.int p4), .val (.int (3 : Int32)), .val (.ref b420), .val (.ref b432), .val (.ref r_474), .val (.ref b432)] [.null]))
    refine nlY X523 hx (hb hby at_130) (q := 135) (by decide) (by decide) ?_
    refine aLw X523 hx (hb hby at_135) (q := 137) rfl rfl rfl ?_
    refine iLw X523 hx (hb hby at_137) (q := 139) rfl rfl ?_
    refine g_vi X523 hx hZ0 hown0 (wd113 hw) (wd114 hw) (notFace_of_selects (args := #[]) (mvT hZ0 (wd116 hw))) (wd116 hw) (wd115 hw) (by decide) q474_1 e523 (Con.back (W := 0) (rm_leftoutI l Z a0 hw zC SC PC aE SE r_474 p4 eA eK eL T474.heap f509 f518 f519 f520 f521 q474_3) hZ0 (wd117 hw) (wd32 hw) (by decide) (by decide)) (by rw [hml]; rfl) (lenOf pd14 rfl) rfl (Nat.le_of_eq rfl) (hb hby at_139) (q := 142) rfl (by decide) (by decide) ?_
    intro v524 T524 L524 X524 Q524
    obtain ⟨rfl, Nq524, K524q⟩ := Q524
    have N524 := Fr.app N523 Nq524
    show Go _ _ _ _ (T524.setTop (mkF m 142 #[.val (.int p0), .val (.int p1), .val (.int p2), .val (.int p3), .val (.int p4), .val (.int (3 : Int32)), .val (.ref b420), .val (.ref b432), .val (.ref r_474), .val (.ref b432)] [.null]))
    refine nnN X524 hx (hb hby at_142) (q := 145) rfl ?_
    refine cI X524 hx (hb hby at_145) (q := 146) rfl (z := (1 : Int32)) rfl ?_
    refine g_goto X524 hx (hb hby at_146) (q := 150) (by decide) (by decide) ?_
    have K525 : Keep h0 h420 [] := (Keep.refl h0 []).ext E420
    have gh526 : h0.size ≤ b420 := Nat.le_trans (Nat.le_refl _) (Nat.le_of_eq g420.symm)
    have K527 : Keep h0 h421 [] := K525.wr W421 (Or.inr gh526)
    have K528 : Keep h0 h424 [] := K527.wr W424 (Or.inr gh526)
    have K529 : Keep h0 h429 [] := K528.wr W429 (Or.inr gh526)
    have K530 : Keep h0 h432 [] := K529.ext E432
    have gh531 : h0.size ≤ b432 := Nat.le_trans le490 (Nat.le_of_eq g432.symm)
    have K532 : Keep h0 T434.heap [] := K530.trans K434q (allS (Or.inr gh531) all0)
    have K533 : Keep h0 T474.heap [] := K532.trans K474q all0
    have K534 : Keep h0 T524.heap [] := K533.trans K524q all0
    have f535 : CHr Z EL s.vm s.heap v0 h429 := f430.trans (CHr.wr W429 f431 f430.1)
    have f536 : CHr Z EL s.vm s.heap v0 h432 := f535.trans (CHr.ext E432 f535.1)
    have f537 : Safe Z EL v0 h432 b432 := Safe.ext E432 f535.1 sf433
    have f538 : CHr Z EL s.vm s.heap v0 T434.heap := f536.trans (CHr.keep K434q (sfS f537 sf0) f536.1)
    have f539 : CHr Z EL s.vm s.heap v0 T474.heap := f538.trans (CHr.keep K474q sf0 f538.1)
    have f540 : CHr Z EL s.vm s.heap v0 T524.heap := f539.trans (CHr.keep K524q sf0 f539.1)
    refine endC X524 hlk hS0 (Nat.zero_le _) hZ0 (own_EW hw) f540 (fun h => by rw [hret] at h; cases h) (lastN X524 hx (t := .boolean) (z' := (1 : Int32)) hret (by simp) (by decide) (hb hby at_150)) ?_ (by decide) (by decide)
    exact ⟨rfl, N524, K534⟩
theorem own_len0 {s : State} {args : Array Value} {t : Term} {a : Addr} {c : Cell} {ty : FieldType} (hf : Fit s) (ev : t.eval args s none [] s = some (.ref a)) (A : Arr s s.heap a c ty) (h : (Jvm.Cond.eq (Term.length t) (Term.int (0 : Int32))).value args s none s [] = some true) : Arv s s.heap a c.cls ty (0 : Int32) [] .null := by
  have hA := A.fin (Vm.Alike.refl _)
  obtain ⟨xv, yv, e1, e2, -, -⟩ := cmp_v (Or.inl h)
  have hlt : c.slots.size < 2 ^ 31 := by
    by_cases hq : c.slots.size < 2 ^ 31
    · exact hq
    · simp [Term.eval, ev, hA, hq] at e1
  have e3 := len_f ev hA hlt
  have h0 := gotT (Cond.eq_ints e3 (Term.int_eval (0))) h
  exact Arv.start hf A hlt h0 (by decide) (by decide) trivial
theorem own_fld0 {s : State} {args : Array Value} {t : Term} {a : Addr} {C n d : String} {k : Int32} (ev : t.eval args s none [] s = some (.ref a)) (h : (Jvm.Cond.eq (Term.field t C n d) (Term.int k)).value args s none s [] = some true) : Fld s s.heap a C n d (.int k) := by
  obtain ⟨xv, yv, e1, e2, k1, k2⟩ := cmp_v (Or.inl h)
  cases (Term.int_eval k).symm.trans e2
  obtain ⟨z, rfl⟩ := k2
  have h0 := gotT (Cond.eq_ints e1 (Term.int_eval k)) h
  subst h0
  exact Fld.start ((fld_at ev).symm.trans e1)
theorem own_sta {s : State} {args : Array Value} {C n d : String} {k : Int32} (h : (Jvm.Cond.eq (Term.static C n d) (Term.int k)).before args s = true) (w : (Jvm.Cond.initializedFor C n d).before args s = true) : Sta s s.heap C n d (.int k) := by
  have h := Cond.before_iff.mp h
  obtain ⟨xv, yv, e1, e2, k1, k2⟩ := cmp_v (Or.inl h)
  cases (Term.int_eval k).symm.trans e2
  obtain ⟨z, rfl⟩ := k2
  have h0 := gotT (Cond.eq_ints e1 (Term.int_eval k)) h
  subst h0
  exact Sta.start e1 (Or.inl w)
theorem wd19 {a0 : Array Value} {Z : State} (hw : ∀ d ∈ tables_1, d.before a0 Z = true) : ((Jvm.Cond.arrayClass Jvm.ClassFile.FieldType.byte) : Jvm.Cond).before a0 Z = true := hw _ (List.mem_of_getElem? (i := 19) rfl)
set_option maxRecDepth 65536 in
set_option maxHeartbeats 40000000 in
theorem comes_1 {Post : Tables → Env → Array Value → State → Outcome → State → Prop} (hpost : ∀ tb e args s v u, (limb_1_1.after args s (.returned v) u = true ∧ limb_1_2.after args s (.returned v) u = true) → ReturnedEndW s (.returned v) u (Jvm.fieldLocs frame_1_writes args s ++ Jvm.arrayLocs frame_1_arrays args s ++ Jvm.staticLocs frame_1_statics s) 24 1152 → Post tb e args s (.returned v) u) :
    ArmFor flags0 classFile x code maxLocals ret World_1 tables_1 room_1 Calls_1 rest_1 Pre_1 Post := by
  intro l hfl _ _ p e ha hc hk s m args below hf hA hF happ hP
  obtain ⟨hcalls, hrest, hpre⟩ := hP
  obtain ⟨-, -, -, hnamed, -, -, -, hat⟩ := (Spec.applies_iff hf).mp happ
  obtain ⟨hg, hn⟩ := and_e (Cond.before_iff.mp (show (Jvm.Cond.and given_1 narrow_1).before args s = true from hpre))
  obtain ⟨g0, r0⟩ := and_e hg
  obtain ⟨i0, r1⟩ := and_e r0
  obtain ⟨i1, r2⟩ := and_e r1
  obtain ⟨i2, r3⟩ := and_e r2
  obtain ⟨i3, r4⟩ := and_e r3
  obtain ⟨w0, w1, w2, w3, w4, rfl⟩ : ∃ w0 w1 w2 w3 w4 : Value, args = #[w0, w1, w2, w3, w4] := by
    have hs : args.size = 5 := by simpa [Cond.value, given_1] using g0
    obtain ⟨L⟩ := args
    match L, hs with
    | [w0, w1, w2, w3, w4], _ => exact ⟨w0, w1, w2, w3, w4, rfl⟩
  have hw := fun d (hd : d ∈ tables_1) => atoms_spec (ws := Jvm.Cond.code x code maxLocals ret :: tables_1) hat d (List.mem_cons_of_mem _ hd)
  obtain ⟨hsets, hown0⟩ := atoms_of _ (rest_1_c_eq ▸ (show rest_1_c.before _ s = true from hrest))
  have hfit : Fit s := fun {y c} hc i hi => by
    obtain ⟨ha, rfl⟩ := Array.getElem?_eq_some_iff.mp hc
    have q := List.all_eq_true.mp ((Array.all_eq_true_iff_forall_mem.mp hF) _ (Array.getElem_mem ha)) i (List.mem_range.mpr hi)
    simpa [Array.getElem?_eq_getElem hi] using q
  obtain ⟨z0, q0⟩ := is_v i0
  obtain rfl : w0 = (.int z0) := Option.some.inj q0
  obtain ⟨z1, q1⟩ := is_v i1
  obtain rfl : w1 = (.int z1) := Option.some.inj q1
  obtain ⟨z2, q2⟩ := is_v i2
  obtain rfl : w2 = (.int z2) := Option.some.inj q2
  obtain ⟨z3, q3⟩ := is_v i3
  obtain rfl : w3 = (.int z3) := Option.some.inj q3
  obtain ⟨z4, q4⟩ := is_v r4
  obtain rfl : w4 = (.int z4) := Option.some.inj q4
  have n5 := not_v (Cond.before_iff.mp (hsets _ (List.mem_of_getElem? (i := 2) rfl)))
  obtain ⟨zC, ezC⟩ := is_v (Cond.before_iff.mp (hsets _ (List.mem_of_getElem? (i := 1) rfl)))
  have SC : Sta s s.heap "java/lang/String" "COMPACT_STRINGS" "Z" (.int zC) := Sta.start ezC (Or.inl (hsets _ (List.mem_of_getElem? (i := 0) rfl)))
  have PC : ¬ (zC = (0 : Int32)) := gotF (Cond.eq_ints ezC (Term.int_eval (0))) n5
  have x11 := Cond.before_iff.mp (hsets _ (List.mem_of_getElem? (i := 11) rfl))
  obtain ⟨aE, eE⟩ := exa_v x11
  have SE : Sta s s.heap "java/util/ImmutableCollections" "EMPTY_LIST" "Ljava/util/ImmutableCollections$ListN;" (.ref aE) := Sta.start eE (Or.inl (hsets _ (List.mem_of_getElem? (i := 10) rfl)))
  have PE1 := Exa.start eE x11
  have x12 := Cond.before_iff.mp (hsets _ (List.mem_of_getElem? (i := 12) rfl))
  obtain ⟨eA, eeA⟩ := arr_v x12
  have PE2 := Fld.start ((fld_at eE).symm.trans eeA)
  obtain ⟨eC, arE⟩ := Arr.start eeA x12
  have x14 := Cond.before_iff.mp (hsets _ (List.mem_of_getElem? (i := 14) rfl))
  have PE3 := own_len0 hfit eeA arE x14
  have x15 := Cond.before_iff.mp (hsets _ (List.mem_of_getElem? (i := 15) rfl))
  have PE4 := own_fld0 eE x15
  have hCH : CHv s EL s.vm s.heap := CHv.start (own_EW hw) hcalls.1 (hsets _ (List.mem_of_getElem? (i := 2) rfl)) (wd19 hw) (wd2 hw)
  obtain ⟨n, o, h1, h2, h3, _, L, rfl, hq1, -, hq⟩ := rm_law l s _ hw zC SC PC aE SE z0 z1 z2 z3 z4 eA eC.cls [] s.heap (Old.start s) PE1 PE2 PE3 PE4 tables_1 p e ha hc hk s m _ below hf ((Spec.applies_iff_loose hf).mp happ).1 ⟨rfl, State.Warmed39.refl s, rfl, hCH, fun _ q => nomatch q⟩ trivial
  obtain ⟨rfl, N, -⟩ := hq1
  exact ⟨n, _, h1, h2, h3, hpost _ _ _ _ _ _ ⟨Cond.after_iff.mpr rfl, Cond.after_iff.mpr (eq_i res_at (Term.int_eval (1)) rfl)⟩ ⟨hq.1, hq.2.1, hq.2.2.1, hq.2.2.2.sift fun y hy => Or.inr (N y hy)⟩⟩
theorem main_1_1 : Claimed_1_1 := comes_1 fun _ _ _ _ _ _ h hF => ⟨h.1, hF⟩
theorem main_1_2 : Claimed_1_2 := comes_1 fun _ _ _ _ _ _ h hF => ⟨h.2, hF⟩
end Jvm.Pilot.@@N@@
namespace Jvm.Pilot.@@N@@
open Jvm Jvm.ClassFile Sem Op Lib Jvm.Free Jvm.Stand Jvm.Pilot.@@N@@.Jvm.D
/-! MADE BY PROGRAM (witnessworld.py) out of the Statement's table words and the real class files: 36 classes; the members and pool entries that the words name. The judged class is class 1, her method 1. -/
namespace start1
open Jvm.ClassFile
def u (s : String) : CpInfo := .utf8 (stringToUtf16 s)
/-- a pool by its gaps: so many unusable entries, then the entry; so many at the end -/
def gap : Nat → List CpInfo → List CpInfo
  | 0, r => r
  | n + 1, r => .unusable :: gap n r
def poolList (es : List (Nat × CpInfo)) (last : Nat) : List CpInfo := es.foldr (fun e r => gap e.1 (e.2 :: r)) (gap last [])
def pool (es : List (Nat × CpInfo)) (last : Nat) : Array CpInfo := ⟨poolList es last⟩
def fileOf (pool : Array CpInfo) (this : Nat) (attrs : Array Attribute := #[]) (ms : Array MethodInfo := #[]) (fl : Nat := 33) (sup : Nat := 0) (ifs : Array Nat := #[]) (fds : Array FieldInfo := #[]) : ClassFile where
  minorVersion := 0
  majorVersion := 65
  constantPool := pool
  accessFlags := fl
  thisClass := this
  superClass := sup
  interfaces := ifs
  fields := fds
  methods := ms
  attributes := attrs
def plain (name : String) (sup : Option ClassId) : Class where
  name := name
  kind := .ordinary
  loader := none
  accessFlags := 33
  super := sup
  interfaces := #[]
  cf := none
  fields := #[]
  methods := #[]
  instanceTypes := #[]
  staticTypes := #[]
  resolved := #[]
  callSites := []
  init := .initialized
  statics := none
  mirror := none

def pool0 : Array CpInfo := pool [(5, u "<init>"), (0, u "()V"), (1, .class_ 10), (1, u "java/lang/Object")] 113

def k0c0 : Code := { maxStack := 0, maxLocals := 1, code := object_method_1_code, exceptionTable := #[], attributes := #[] }
def k0m0 : Method := { name := "<init>", desc := "()V", sig := { parameters := [], returnType := none }, accessFlags := 1, code := some k0c0 }
/-- java/lang/Object -/
def k0 : Class := { plain "java/lang/Object" none with
  accessFlags := 33
  interfaces := #[]
  cf := some (fileOf pool0 8 #[] #[{ accessFlags := 1, nameIndex := 5, descriptorIndex := 6, attributes := #[] }] 33 0 #[] #[])
  fields := #[]
  methods := #[k0m0]
  instanceTypes := #[]
  staticTypes := #[]
  resolved := Array.replicate 124 none
  statics := none }

def pool1 : Array CpInfo := pool [(2, .class_ 4), (1, u "java/lang/Object"), (0, u "<init>"), (0, u "()V"), (0, .class_ 8), (0, u "java/lang/String"), (0, .methodref 7 10), (0, .nameAndType 5 11), (0, u "([C)V"), (0, .methodref 13 14), (0, .class_ 15), (0, .nameAndType 16 17), (0, u "com/example/quaymark/quaymark/Review"), (0, u "submitted"), (0, u "(Ljava/lang/String;)Lcom/example/quaymark/quaymark/Review;"), (0, .methodref 13 19), (0, .nameAndType 20 21), (0, u "submittedBy"), (0, u "()Ljava/lang/String;"), (0, .methodref 7 23), (0, .nameAndType 24 25), (0, u "equals"), (0, u "(Ljava/lang/Object;)Z"), (0, .methodref 13 27), (0, .nameAndType 28 29), (0, u "leftOut"), (0, u "()Ljava/util/List;"), (0, .interfaceMethodref 31 32), (0, .class_ 33), (0, .nameAndType 34 35), (0, u "java/util/List"), (0, u "size"), (0, u "()I"), (0, .methodref 13 37), (0, .nameAndType 38 21), (0, u "signedOffBy"), (0, .methodref 13 40), (0, .nameAndType 41 42), (0, u "withdrawn"), (0, u "()Lcom/example/quaymark/quaymark/Review$Withdrawal;"), (0, .methodref 13 44), (0, .nameAndType 28 45), (0, u "(I)Lcom/example/quaymark/quaymark/Review$LeftOut;"), (0, .class_ 47), (0, u "com/example/quaymark/quaymark/ReviewSubmittedPinLaw"), (2, u "law"), (0, u "(IIIII)Z")] 12

def k1m0 : Method := { name := "<init>", desc := "()V", sig := { parameters := [], returnType := none }, accessFlags := 1, code := none }
def k1c1 : Code := { maxStack := 4, maxLocals := 10, code := code, exceptionTable := #[], attributes := #[] }
def k1m1 : Method := { name := "law", desc := "(IIIII)Z", sig := { parameters := [.int, .int, .int, .int, .int], returnType := some .boolean }, accessFlags := 9, code := some k1c1 }
/-- com/example/quaymark/quaymark/ReviewSubmittedPinLaw -/
def k1 : Class := { plain "com/example/quaymark/quaymark/ReviewSubmittedPinLaw" (some 0) with
  accessFlags := 49
  interfaces := #[]
  cf := some (fileOf pool1 46 #[] #[{ accessFlags := 1, nameIndex := 5, descriptorIndex := 6, attributes := #[] }, { accessFlags := 9, nameIndex := 50, descriptorIndex := 51, attributes := #[] }] 49 2 #[] #[])
  fields := #[]
  methods := #[k1m0, k1m1]
  instanceTypes := #[]
  staticTypes := #[]
  resolved := Array.replicate 64 none
  statics := none }

def pool2 : Array CpInfo := pool [(1, .class_ 2), (0, u "java/io/Serializable"), (0, .class_ 4), (0, u "java/lang/Object")] 2

/-- java/io/Serializable -/
def k2 : Class := { plain "java/io/Serializable" (some 0) with
  accessFlags := 1537
  interfaces := #[]
  cf := some (fileOf pool2 1 #[] #[] 1537 3 #[] #[])
  fields := #[]
  methods := #[]
  instanceTypes := #[]
  staticTypes := #[]
  resolved := Array.replicate 7 none
  statics := none }

def pool3 : Array CpInfo := pool [(1, .class_ 2), (0, u "java/lang/Comparable"), (0, .class_ 4), (0, u "java/lang/Object")] 7

/-- java/lang/Comparable -/
def k3 : Class := { plain "java/lang/Comparable" (some 0) with
  accessFlags := 1537
  interfaces := #[]
  cf := some (fileOf pool3 1 #[] #[] 1537 3 #[] #[])
  fields := #[]
  methods := #[]
  instanceTypes := #[]
  staticTypes := #[]
  resolved := Array.replicate 12 none
  statics := none }

def pool4 : Array CpInfo := pool [(2, .class_ 4), (1, u "java/lang/CharSequence"), (42, .class_ 48), (0, u "java/lang/CharSequence$1CodePointIterator"), (10, .class_ 60), (0, u "java/lang/CharSequence$1CharIterator"), (5, .class_ 67), (0, u "java/lang/Object")] 63

/-- java/lang/CharSequence -/
def k4 : Class := { plain "java/lang/CharSequence" (some 0) with
  accessFlags := 1537
  interfaces := #[]
  cf := some (fileOf pool4 2 #[.nestMembers #[47, 59]] #[] 1537 66 #[] #[])
  fields := #[]
  methods := #[]
  instanceTypes := #[]
  staticTypes := #[]
  resolved := Array.replicate 131 none
  statics := none }

def pool5 : Array CpInfo := pool [(1, .class_ 2), (0, u "java/lang/constant/Constable"), (0, .class_ 4), (0, u "java/lang/Object")] 6

/-- java/lang/constant/Constable -/
def k5 : Class := { plain "java/lang/constant/Constable" (some 0) with
  accessFlags := 1537
  interfaces := #[]
  cf := some (fileOf pool5 1 #[] #[] 1537 3 #[] #[])
  fields := #[]
  methods := #[]
  instanceTypes := #[]
  staticTypes := #[]
  resolved := Array.replicate 11 none
  statics := none }

def pool6 : Array CpInfo := pool [(1, .class_ 2), (0, u "java/lang/constant/ConstantDesc"), (0, .class_ 4), (0, u "java/lang/Object")] 32

/-- java/lang/constant/ConstantDesc -/
def k6 : Class := { plain "java/lang/constant/ConstantDesc" (some 0) with
  accessFlags := 1537
  interfaces := #[]
  cf := some (fileOf pool6 1 #[] #[] 1537 3 #[] #[])
  fields := #[]
  methods := #[]
  instanceTypes := #[]
  staticTypes := #[]
  resolved := Array.replicate 37 none
  statics := none }

def pool7 : Array CpInfo := pool [(1, .methodref 2 3), (0, .class_ 4), (0, .nameAndType 5 6), (0, u "java/lang/Object"), (0, u "<init>"), (0, u "()V"), (0, .string 8), (0, u ""), (0, .fieldref 10 11), (0, .class_ 12), (0, .nameAndType 13 14), (0, u "java/lang/String"), (0, u "value"), (0, u "[B"), (0, .fieldref 10 16), (0, .nameAndType 17 18), (0, u "coder"), (0, u "B"), (2, u "hash"), (0, u "I"), (2, u "hashIsZero"), (0, u "Z"), (0, .methodref 10 28), (0, .nameAndType 5 29), (0, u "([CIILjava/lang/Void;)V"), (8, .fieldref 10 39), (0, .nameAndType 40 26), (0, u "COMPACT_STRINGS"), (1, .class_ 44), (1, u "java/lang/StringUTF16"), (0, u "compress"), (1, .methodref 42 48), (0, .nameAndType 49 50), (0, u "coderFromArrayLen"), (0, u "([BI)B"), (126, .methodref 42 178), (0, .nameAndType 45 179), (0, u "([CII)[B"), (363, u "equals"), (29, u "(Ljava/lang/Object;)Z"), (1, .class_ 576), (0, u "java/lang/CharSequence"), (22, u "CASE_INSENSITIVE_ORDER"), (0, u "Ljava/util/Comparator;"), (409, u "([C)V"), (90, u "serialPersistentFields"), (0, u "[Ljava/io/ObjectStreamField;"), (0, .class_ 1104), (0, u "java/lang/String$CaseInsensitiveComparator"), (1, .class_ 1107), (0, u "java/io/Serializable"), (0, .class_ 1109), (0, u "java/lang/Comparable"), (0, .class_ 1111), (0, u "java/lang/constant/Constable"), (0, .class_ 1113), (0, u "java/lang/constant/ConstantDesc"), (2, u "serialVersionUID"), (0, u "J"), (3, u "REPL"), (0, u "C"), (2, u "LATIN1"), (1, u "UTF16")] 323

def k7m0 : Method := { name := "<init>", desc := "()V", sig := { parameters := [], returnType := none }, accessFlags := 1, code := none }
def k7c1 : Code := { maxStack := 5, maxLocals := 2, code := jdk_42_method_3_code, exceptionTable := #[], attributes := #[] }
def k7m1 : Method := { name := "<init>", desc := "([C)V", sig := { parameters := [(.array .char)], returnType := none }, accessFlags := 1, code := some k7c1 }
def k7c2 : Code := { maxStack := 2, maxLocals := 3, code := jdk_42_method_66_code, exceptionTable := #[], attributes := #[] }
def k7m2 : Method := { name := "equals", desc := "(Ljava/lang/Object;)Z", sig := { parameters := [(.object "java/lang/Object")], returnType := some .boolean }, accessFlags := 1, code := some k7c2 }
def k7c3 : Code := { maxStack := 4, maxLocals := 6, code := jdk_42_method_149_code, exceptionTable := #[], attributes := #[] }
def k7m3 : Method := { name := "<init>", desc := "([CIILjava/lang/Void;)V", sig := { parameters := [(.array .char), .int, .int, (.object "java/lang/Void")], returnType := none }, accessFlags := 2, code := some k7c3 }
/-- java/lang/String -/
def k7 : Class := { plain "java/lang/String" (some 0) with
  accessFlags := 49
  interfaces := #[2, 3, 4, 5, 6]
  cf := some (fileOf pool7 10 #[.nestMembers #[1103]] #[{ accessFlags := 1, nameIndex := 5, descriptorIndex := 6, attributes := #[] }, { accessFlags := 1, nameIndex := 5, descriptorIndex := 1010, attributes := #[] }, { accessFlags := 1, nameIndex := 543, descriptorIndex := 573, attributes := #[] }, { accessFlags := 2, nameIndex := 5, descriptorIndex := 29, attributes := #[] }] 49 2 #[1106, 1108, 575, 1110, 1112] #[{ accessFlags := 18, nameIndex := 13, descriptorIndex := 14, attributes := #[] }, { accessFlags := 18, nameIndex := 17, descriptorIndex := 18, attributes := #[] }, { accessFlags := 2, nameIndex := 21, descriptorIndex := 22, attributes := #[] }, { accessFlags := 2, nameIndex := 25, descriptorIndex := 26, attributes := #[] }, { accessFlags := 26, nameIndex := 1116, descriptorIndex := 1117, attributes := #[] }, { accessFlags := 24, nameIndex := 40, descriptorIndex := 26, attributes := #[] }, { accessFlags := 26, nameIndex := 1101, descriptorIndex := 1102, attributes := #[] }, { accessFlags := 26, nameIndex := 1121, descriptorIndex := 1122, attributes := #[] }, { accessFlags := 25, nameIndex := 599, descriptorIndex := 600, attributes := #[] }, { accessFlags := 24, nameIndex := 1125, descriptorIndex := 18, attributes := #[] }, { accessFlags := 24, nameIndex := 1127, descriptorIndex := 18, attributes := #[] }])
  fields := #[{ name := "value", type := (.array .byte), accessFlags := 18, slot := 0, constantValue := 0 }, { name := "coder", type := .byte, accessFlags := 18, slot := 1, constantValue := 0 }, { name := "hash", type := .int, accessFlags := 2, slot := 2, constantValue := 0 }, { name := "hashIsZero", type := .boolean, accessFlags := 2, slot := 3, constantValue := 0 }, { name := "serialVersionUID", type := .long, accessFlags := 26, slot := 0, constantValue := 0 }, { name := "COMPACT_STRINGS", type := .boolean, accessFlags := 24, slot := 1, constantValue := 0 }, { name := "serialPersistentFields", type := (.array (.object "java/io/ObjectStreamField")), accessFlags := 26, slot := 2, constantValue := 0 }, { name := "REPL", type := .char, accessFlags := 26, slot := 3, constantValue := 0 }, { name := "CASE_INSENSITIVE_ORDER", type := (.object "java/util/Comparator"), accessFlags := 25, slot := 4, constantValue := 0 }, { name := "LATIN1", type := .byte, accessFlags := 24, slot := 5, constantValue := 0 }, { name := "UTF16", type := .byte, accessFlags := 24, slot := 6, constantValue := 0 }]
  methods := #[k7m0, k7m1, k7m2, k7m3]
  instanceTypes := #[(.array .byte), .byte, .int, .boolean]
  staticTypes := #[.long, .boolean, (.array (.object "java/io/ObjectStreamField")), .char, (.object "java/util/Comparator"), .byte, .byte]
  resolved := Array.replicate 1451 none
  statics := some 0 }

def pool8 : Array CpInfo := pool [(6, .class_ 8), (1, u "java/lang/Object"), (0, u "<init>"), (0, u "()V"), (1, .class_ 14), (1, u "java/lang/StringUTF16"), (31, u "$assertionsDisabled"), (0, u "Z"), (13, u "HI_BYTE_SHIFT"), (0, u "I"), (2, u "LO_BYTE_SHIFT"), (49, .methodref 12 116), (0, .nameAndType 117 118), (0, u "compress"), (0, u "([CI[BII)I"), (3, u "([CII)[B"), (138, u "coderFromArrayLen"), (0, u "([BI)B"), (106, .class_ 371), (1, u "java/lang/StringUTF16$LinesSpliterator"), (58, u "MAX_LENGTH"), (196, .class_ 628), (0, u "java/lang/StringUTF16$CodePointsSpliterator"), (0, .class_ 630), (0, u "java/lang/StringUTF16$CharsSpliterator")] 4

def k8m0 : Method := { name := "<init>", desc := "()V", sig := { parameters := [], returnType := none }, accessFlags := 0, code := none }
def k8c1 : Code := { maxStack := 2, maxLocals := 2, code := jdk_52_method_15_code, exceptionTable := #[], attributes := #[] }
def k8m1 : Method := { name := "coderFromArrayLen", desc := "([BI)B", sig := { parameters := [(.array .byte), .int], returnType := some .byte }, accessFlags := 8, code := some k8c1 }
def k8c2 : Code := { maxStack := 5, maxLocals := 6, code := jdk_52_method_16_code, exceptionTable := #[], attributes := #[] }
def k8m2 : Method := { name := "compress", desc := "([CII)[B", sig := { parameters := [(.array .char), .int, .int], returnType := some (.array .byte) }, accessFlags := 9, code := some k8c2 }
def k8c3 : Code := { maxStack := 3, maxLocals := 7, code := jdk_52_method_21_code, exceptionTable := #[], attributes := #[] }
def k8m3 : Method := { name := "compress", desc := "([CI[BII)I", sig := { parameters := [(.array .char), .int, (.array .byte), .int, .int], returnType := some .int }, accessFlags := 9, code := some k8c3 }
/-- java/lang/StringUTF16 -/
def k8 : Class := { plain "java/lang/StringUTF16" (some 0) with
  accessFlags := 48
  interfaces := #[]
  cf := some (fileOf pool8 12 #[.nestMembers #[627, 629, 369]] #[{ accessFlags := 0, nameIndex := 9, descriptorIndex := 10, attributes := #[] }, { accessFlags := 8, nameIndex := 261, descriptorIndex := 262, attributes := #[] }, { accessFlags := 9, nameIndex := 117, descriptorIndex := 122, attributes := #[] }, { accessFlags := 9, nameIndex := 117, descriptorIndex := 118, attributes := #[] }] 48 6 #[] #[{ accessFlags := 26, nameIndex := 61, descriptorIndex := 62, attributes := #[] }, { accessFlags := 26, nameIndex := 65, descriptorIndex := 62, attributes := #[] }, { accessFlags := 24, nameIndex := 430, descriptorIndex := 62, attributes := #[] }, { accessFlags := 4120, nameIndex := 46, descriptorIndex := 47, attributes := #[] }])
  fields := #[{ name := "HI_BYTE_SHIFT", type := .int, accessFlags := 26, slot := 0, constantValue := 0 }, { name := "LO_BYTE_SHIFT", type := .int, accessFlags := 26, slot := 1, constantValue := 0 }, { name := "MAX_LENGTH", type := .int, accessFlags := 24, slot := 2, constantValue := 0 }, { name := "$assertionsDisabled", type := .boolean, accessFlags := 4120, slot := 3, constantValue := 0 }]
  methods := #[k8m0, k8m1, k8m2, k8m3]
  instanceTypes := #[]
  staticTypes := #[.int, .int, .int, .boolean]
  resolved := Array.replicate 635 none
  statics := none }

def pool9 : Array CpInfo := pool [(1, .methodref 2 3), (0, .class_ 4), (0, .nameAndType 5 6), (0, u "java/lang/Object"), (0, u "<init>"), (0, u "()V"), (0, .class_ 8), (0, u "java/lang/Record")] 13

def k9c0 : Code := { maxStack := 1, maxLocals := 1, code := jdk_30_method_1_code, exceptionTable := #[], attributes := #[] }
def k9m0 : Method := { name := "<init>", desc := "()V", sig := { parameters := [], returnType := none }, accessFlags := 4, code := some k9c0 }
/-- java/lang/Record -/
def k9 : Class := { plain "java/lang/Record" (some 0) with
  accessFlags := 1057
  interfaces := #[]
  cf := some (fileOf pool9 7 #[] #[{ accessFlags := 4, nameIndex := 5, descriptorIndex := 6, attributes := #[] }] 1057 2 #[] #[])
  fields := #[]
  methods := #[k9m0]
  instanceTypes := #[]
  staticTypes := #[]
  resolved := Array.replicate 22 none
  statics := none }

def pool10 : Array CpInfo := pool [(1, .methodref 2 3), (0, .class_ 4), (0, .nameAndType 5 6), (0, u "java/lang/Record"), (0, u "<init>"), (0, u "()V"), (0, .interfaceMethodref 8 9), (0, .class_ 10), (0, .nameAndType 11 12), (0, u "java/util/List"), (0, u "copyOf"), (0, u "(Ljava/util/Collection;)Ljava/util/List;"), (0, .fieldref 14 15), (0, .class_ 16), (0, .nameAndType 17 18), (0, u "com/example/quaymark/quaymark/Review"), (0, u "submittedBy"), (0, u "Ljava/lang/String;"), (0, .fieldref 14 20), (0, .nameAndType 21 22), (0, u "leftOut"), (0, u "Ljava/util/List;"), (0, .fieldref 14 24), (0, .nameAndType 25 18), (0, u "signedOffBy"), (0, .fieldref 14 27), (0, .nameAndType 28 29), (0, u "withdrawn"), (0, u "Lcom/example/quaymark/quaymark/Review$Withdrawal;"), (0, .interfaceMethodref 8 31), (0, .nameAndType 32 33), (0, u "of"), (0, u "()Ljava/util/List;"), (0, .methodref 14 35), (0, .nameAndType 5 36), (0, u "(Ljava/lang/String;Ljava/util/List;Ljava/lang/String;Lcom/example/quaymark/quaymark/Review$Withdrawal;)V"), (9, .interfaceMethodref 8 47), (0, .nameAndType 48 49), (0, u "iterator"), (0, u "()Ljava/util/Iterator;"), (0, .interfaceMethodref 51 52), (0, .class_ 53), (0, .nameAndType 54 55), (0, u "java/util/Iterator"), (0, u "hasNext"), (0, u "()Z"), (4, .class_ 61), (0, u "com/example/quaymark/quaymark/Review$LeftOut"), (9, u "()Ljava/lang/String;"), (44, u "MAX_TEXT"), (0, u "I"), (6, u "submitted"), (0, u "(Ljava/lang/String;)Lcom/example/quaymark/quaymark/Review;"), (5, u "(I)Lcom/example/quaymark/quaymark/Review$LeftOut;"), (6, u "()Lcom/example/quaymark/quaymark/Review$Withdrawal;"), (3, .class_ 143), (0, u "com/example/quaymark/quaymark/Review$Withdrawal")] 33

def k10c0 : Code := { maxStack := 2, maxLocals := 5, code := prog_23_method_1_code, exceptionTable := #[], attributes := #[] }
def k10m0 : Method := { name := "<init>", desc := "(Ljava/lang/String;Ljava/util/List;Ljava/lang/String;Lcom/example/quaymark/quaymark/Review$Withdrawal;)V", sig := { parameters := [(.object "java/lang/String"), (.object "java/util/List"), (.object "java/lang/String"), (.object "com/example/quaymark/quaymark/Review$Withdrawal")], returnType := none }, accessFlags := 0, code := some k10c0 }
def k10c1 : Code := { maxStack := 6, maxLocals := 1, code := prog_23_method_2_code, exceptionTable := #[], attributes := #[] }
def k10m1 : Method := { name := "submitted", desc := "(Ljava/lang/String;)Lcom/example/quaymark/quaymark/Review;", sig := { parameters := [(.object "java/lang/String")], returnType := some (.object "com/example/quaymark/quaymark/Review") }, accessFlags := 8, code := some k10c1 }
def k10c2 : Code := { maxStack := 2, maxLocals := 4, code := prog_23_method_6_code, exceptionTable := #[], attributes := #[] }
def k10m2 : Method := { name := "leftOut", desc := "(I)Lcom/example/quaymark/quaymark/Review$LeftOut;", sig := { parameters := [.int], returnType := some (.object "com/example/quaymark/quaymark/Review$LeftOut") }, accessFlags := 0, code := some k10c2 }
def k10c3 : Code := { maxStack := 1, maxLocals := 1, code := prog_23_method_12_code, exceptionTable := #[], attributes := #[] }
def k10m3 : Method := { name := "submittedBy", desc := "()Ljava/lang/String;", sig := { parameters := [], returnType := some (.object "java/lang/String") }, accessFlags := 1, code := some k10c3 }
def k10c4 : Code := { maxStack := 1, maxLocals := 1, code := prog_23_method_13_code, exceptionTable := #[], attributes := #[] }
def k10m4 : Method := { name := "leftOut", desc := "()Ljava/util/List;", sig := { parameters := [], returnType := some (.object "java/util/List") }, accessFlags := 1, code := some k10c4 }
def k10c5 : Code := { maxStack := 1, maxLocals := 1, code := prog_23_method_14_code, exceptionTable := #[], attributes := #[] }
def k10m5 : Method := { name := "signedOffBy", desc := "()Ljava/lang/String;", sig := { parameters := [], returnType := some (.object "java/lang/String") }, accessFlags := 1, code := some k10c5 }
def k10c6 : Code := { maxStack := 1, maxLocals := 1, code := prog_23_method_15_code, exceptionTable := #[], attributes := #[] }
def k10m6 : Method := { name := "withdrawn", desc := "()Lcom/example/quaymark/quaymark/Review$Withdrawal;", sig := { parameters := [], returnType := some (.object "com/example/quaymark/quaymark/Review$Withdrawal") }, accessFlags := 1, code := some k10c6 }
/-- com/example/quaymark/quaymark/Review -/
def k10 : Class := { plain "com/example/quaymark/quaymark/Review" (some 9) with
  accessFlags := 48
  interfaces := #[]
  cf := some (fileOf pool10 14 #[.nestMembers #[142, 60]] #[{ accessFlags := 0, nameIndex := 5, descriptorIndex := 36, attributes := #[] }, { accessFlags := 8, nameIndex := 124, descriptorIndex := 125, attributes := #[] }, { accessFlags := 0, nameIndex := 21, descriptorIndex := 131, attributes := #[] }, { accessFlags := 1, nameIndex := 17, descriptorIndex := 71, attributes := #[] }, { accessFlags := 1, nameIndex := 21, descriptorIndex := 33, attributes := #[] }, { accessFlags := 1, nameIndex := 25, descriptorIndex := 71, attributes := #[] }, { accessFlags := 1, nameIndex := 28, descriptorIndex := 138, attributes := #[] }] 48 2 #[] #[{ accessFlags := 18, nameIndex := 17, descriptorIndex := 18, attributes := #[] }, { accessFlags := 18, nameIndex := 21, descriptorIndex := 22, attributes := #[] }, { accessFlags := 18, nameIndex := 25, descriptorIndex := 18, attributes := #[] }, { accessFlags := 18, nameIndex := 28, descriptorIndex := 29, attributes := #[] }, { accessFlags := 24, nameIndex := 116, descriptorIndex := 117, attributes := #[] }])
  fields := #[{ name := "submittedBy", type := (.object "java/lang/String"), accessFlags := 18, slot := 0, constantValue := 0 }, { name := "leftOut", type := (.object "java/util/List"), accessFlags := 18, slot := 1, constantValue := 0 }, { name := "signedOffBy", type := (.object "java/lang/String"), accessFlags := 18, slot := 2, constantValue := 0 }, { name := "withdrawn", type := (.object "com/example/quaymark/quaymark/Review$Withdrawal"), accessFlags := 18, slot := 3, constantValue := 0 }, { name := "MAX_TEXT", type := .int, accessFlags := 24, slot := 0, constantValue := 0 }]
  methods := #[k10m0, k10m1, k10m2, k10m3, k10m4, k10m5, k10m6]
  instanceTypes := #[(.object "java/lang/String"), (.object "java/util/List"), (.object "java/lang/String"), (.object "com/example/quaymark/quaymark/Review$Withdrawal")]
  staticTypes := #[.int]
  resolved := Array.replicate 177 none
  statics := none }

def pool11 : Array CpInfo := pool [(8, .class_ 10), (1, u "java/lang/Iterable"), (24, .class_ 36), (0, u "java/lang/Object")] 25

/-- java/lang/Iterable -/
def k11 : Class := { plain "java/lang/Iterable" (some 0) with
  accessFlags := 1537
  interfaces := #[]
  cf := some (fileOf pool11 8 #[] #[] 1537 35 #[] #[])
  fields := #[]
  methods := #[]
  instanceTypes := #[]
  staticTypes := #[]
  resolved := Array.replicate 62 none
  statics := none }

def pool12 : Array CpInfo := pool [(10, .class_ 12), (1, u "java/util/Collection"), (47, .class_ 61), (0, u "java/lang/Object"), (0, .class_ 63), (0, u "java/lang/Iterable")] 51

/-- java/util/Collection -/
def k12 : Class := { plain "java/util/Collection" (some 0) with
  accessFlags := 1537
  interfaces := #[11]
  cf := some (fileOf pool12 10 #[] #[] 1537 60 #[62] #[])
  fields := #[]
  methods := #[]
  instanceTypes := #[]
  staticTypes := #[]
  resolved := Array.replicate 115 none
  statics := none }

def pool13 : Array CpInfo := pool [(8, .class_ 10), (1, u "java/util/SequencedCollection"), (15, .class_ 27), (0, u "java/lang/Object"), (0, .class_ 29), (0, u "java/util/Collection")] 27

/-- java/util/SequencedCollection -/
def k13 : Class := { plain "java/util/SequencedCollection" (some 0) with
  accessFlags := 1537
  interfaces := #[12]
  cf := some (fileOf pool13 8 #[] #[] 1537 26 #[28] #[])
  fields := #[]
  methods := #[]
  instanceTypes := #[]
  staticTypes := #[]
  resolved := Array.replicate 57 none
  statics := none }

def pool14 : Array CpInfo := pool [(8, .class_ 10), (1, u "java/util/List"), (68, u "size"), (0, u "()I"), (7, u "of"), (1, .fieldref 91 92), (0, .class_ 93), (0, .nameAndType 94 95), (0, u "java/util/ImmutableCollections"), (0, u "EMPTY_LIST"), (0, u "Ljava/util/ImmutableCollections$ListN;"), (7, .class_ 104), (0, u "java/lang/Object"), (7, .methodref 91 113), (0, .nameAndType 114 115), (0, u "listCopy"), (0, u "(Ljava/util/Collection;)Ljava/util/List;"), (3, u "()Ljava/util/List;"), (0, .class_ 121), (0, u "java/util/SequencedCollection"), (1, u "iterator"), (0, u "()Ljava/util/Iterator;"), (109, u "copyOf")] 16

def k14m0 : Method := { name := "size", desc := "()I", sig := { parameters := [], returnType := some .int }, accessFlags := 1025, code := none }
def k14m1 : Method := { name := "iterator", desc := "()Ljava/util/Iterator;", sig := { parameters := [], returnType := some (.object "java/util/Iterator") }, accessFlags := 1025, code := none }
def k14c2 : Code := { maxStack := 1, maxLocals := 0, code := jdk_40_method_36_code, exceptionTable := #[], attributes := #[] }
def k14m2 : Method := { name := "of", desc := "()Ljava/util/List;", sig := { parameters := [], returnType := some (.object "java/util/List") }, accessFlags := 9, code := some k14c2 }
def k14c3 : Code := { maxStack := 1, maxLocals := 1, code := jdk_40_method_48_code, exceptionTable := #[], attributes := #[] }
def k14m3 : Method := { name := "copyOf", desc := "(Ljava/util/Collection;)Ljava/util/List;", sig := { parameters := [(.object "java/util/Collection")], returnType := some (.object "java/util/List") }, accessFlags := 9, code := some k14c3 }
/-- java/util/List -/
def k14 : Class := { plain "java/util/List" (some 0) with
  accessFlags := 1537
  interfaces := #[13]
  cf := some (fileOf pool14 8 #[] #[{ accessFlags := 1025, nameIndex := 79, descriptorIndex := 80, attributes := #[] }, { accessFlags := 1025, nameIndex := 123, descriptorIndex := 124, attributes := #[] }, { accessFlags := 9, nameIndex := 88, descriptorIndex := 119, attributes := #[] }, { accessFlags := 9, nameIndex := 234, descriptorIndex := 115, attributes := #[] }] 1537 103 #[120] #[])
  fields := #[]
  methods := #[k14m0, k14m1, k14m2, k14m3]
  instanceTypes := #[]
  staticTypes := #[]
  resolved := Array.replicate 251 none
  statics := none }

def pool15 : Array CpInfo := pool [(2, .class_ 4), (1, u "java/lang/Object"), (0, u "<init>"), (0, u "()V"), (3, .class_ 11), (0, u "java/util/ImmutableCollections$List12"), (0, .class_ 13), (0, u "java/util/ImmutableCollections$ListN"), (0, .fieldref 12 15), (0, .nameAndType 16 17), (0, u "allowNulls"), (0, u "Z"), (0, .class_ 19), (0, u "java/util/List"), (27, .class_ 49), (1, u "java/util/ImmutableCollections"), (0, u "$assertionsDisabled"), (5, u "[Ljava/lang/Object;"), (5, u "EMPTY_LIST"), (0, u "Ljava/util/ImmutableCollections$ListN;"), (8, u "EMPTY_LIST_NULLS"), (22, u "SALT32L"), (0, u "J"), (2, u "REVERSE"), (6, u "archivedObjects"), (2, u "EMPTY"), (0, u "Ljava/lang/Object;"), (0, .class_ 112), (0, u "java/util/ImmutableCollections$SetN"), (5, u "EMPTY_SET"), (0, u "Ljava/util/ImmutableCollections$SetN;"), (0, .class_ 121), (0, u "java/util/ImmutableCollections$MapN"), (3, u "EMPTY_MAP"), (0, u "Ljava/util/ImmutableCollections$MapN;"), (4, u "EXPAND_FACTOR"), (0, u "I"), (9, u "listCopy"), (0, u "(Ljava/util/Collection;)Ljava/util/List;"), (25, .class_ 170), (0, u "java/util/ImmutableCollections$MapN$MapNIterator"), (0, .class_ 172), (0, u "java/util/ImmutableCollections$MapN$1"), (0, .class_ 174), (0, u "java/util/ImmutableCollections$Map1"), (0, .class_ 176), (0, u "java/util/ImmutableCollections$AbstractImmutableMap"), (0, .class_ 178), (0, u "java/util/ImmutableCollections$SetN$SetNIterator"), (0, .class_ 180), (0, u "java/util/ImmutableCollections$Set12"), (0, .class_ 182), (0, u "java/util/ImmutableCollections$Set12$1"), (0, .class_ 184), (0, u "java/util/ImmutableCollections$AbstractImmutableSet"), (0, .class_ 186), (0, u "java/util/ImmutableCollections$SubList"), (0, .class_ 188), (0, u "java/util/ImmutableCollections$ListItr"), (0, .class_ 190), (0, u "java/util/ImmutableCollections$AbstractImmutableList"), (0, .class_ 192), (0, u "java/util/ImmutableCollections$AbstractImmutableCollection"), (0, .class_ 194), (0, u "java/util/ImmutableCollections$Access"), (0, .class_ 196), (0, u "java/util/ImmutableCollections$Access$1")] 16

def k15m0 : Method := { name := "<init>", desc := "()V", sig := { parameters := [], returnType := none }, accessFlags := 2, code := none }
def k15c1 : Code := { maxStack := 1, maxLocals := 2, code := jdk_56_method_3_code, exceptionTable := #[], attributes := #[] }
def k15m1 : Method := { name := "listCopy", desc := "(Ljava/util/Collection;)Ljava/util/List;", sig := { parameters := [(.object "java/util/Collection")], returnType := some (.object "java/util/List") }, accessFlags := 8, code := some k15c1 }
/-- java/util/ImmutableCollections -/
def k15 : Class := { plain "java/util/ImmutableCollections" (some 0) with
  accessFlags := 32
  interfaces := #[]
  cf := some (fileOf pool15 47 #[.nestMembers #[120, 169, 171, 173, 175, 111, 177, 179, 181, 183, 12, 10, 185, 187, 189, 191, 193, 195]] #[{ accessFlags := 2, nameIndex := 5, descriptorIndex := 6, attributes := #[] }, { accessFlags := 8, nameIndex := 142, descriptorIndex := 143, attributes := #[] }] 32 2 #[] #[{ accessFlags := 26, nameIndex := 95, descriptorIndex := 96, attributes := #[] }, { accessFlags := 26, nameIndex := 99, descriptorIndex := 17, attributes := #[] }, { accessFlags := 10, nameIndex := 106, descriptorIndex := 56, attributes := #[] }, { accessFlags := 26, nameIndex := 109, descriptorIndex := 110, attributes := #[] }, { accessFlags := 24, nameIndex := 62, descriptorIndex := 63, attributes := #[] }, { accessFlags := 24, nameIndex := 72, descriptorIndex := 63, attributes := #[] }, { accessFlags := 24, nameIndex := 118, descriptorIndex := 119, attributes := #[] }, { accessFlags := 24, nameIndex := 125, descriptorIndex := 126, attributes := #[] }, { accessFlags := 24, nameIndex := 131, descriptorIndex := 132, attributes := #[] }, { accessFlags := 4120, nameIndex := 50, descriptorIndex := 17, attributes := #[] }])
  fields := #[{ name := "SALT32L", type := .long, accessFlags := 26, slot := 0, constantValue := 0 }, { name := "REVERSE", type := .boolean, accessFlags := 26, slot := 1, constantValue := 0 }, { name := "archivedObjects", type := (.array (.object "java/lang/Object")), accessFlags := 10, slot := 2, constantValue := 0 }, { name := "EMPTY", type := (.object "java/lang/Object"), accessFlags := 26, slot := 3, constantValue := 0 }, { name := "EMPTY_LIST", type := (.object "java/util/ImmutableCollections$ListN"), accessFlags := 24, slot := 4, constantValue := 0 }, { name := "EMPTY_LIST_NULLS", type := (.object "java/util/ImmutableCollections$ListN"), accessFlags := 24, slot := 5, constantValue := 0 }, { name := "EMPTY_SET", type := (.object "java/util/ImmutableCollections$SetN"), accessFlags := 24, slot := 6, constantValue := 0 }, { name := "EMPTY_MAP", type := (.object "java/util/ImmutableCollections$MapN"), accessFlags := 24, slot := 7, constantValue := 0 }, { name := "EXPAND_FACTOR", type := .int, accessFlags := 24, slot := 8, constantValue := 0 }, { name := "$assertionsDisabled", type := .boolean, accessFlags := 4120, slot := 9, constantValue := 0 }]
  methods := #[k15m0, k15m1]
  instanceTypes := #[]
  staticTypes := #[.long, .boolean, (.array (.object "java/lang/Object")), (.object "java/lang/Object"), (.object "java/util/ImmutableCollections$ListN"), (.object "java/util/ImmutableCollections$ListN"), (.object "java/util/ImmutableCollections$SetN"), (.object "java/util/ImmutableCollections$MapN"), .int, .boolean]
  resolved := Array.replicate 213 none
  statics := some 1 }

def pool16 : Array CpInfo := pool [(2, .class_ 4), (1, u "java/lang/Object"), (0, u "<init>"), (0, u "()V"), (1, .class_ 10), (1, u "java/util/AbstractCollection"), (0, u "size"), (0, u "()I"), (64, .class_ 78), (0, u "java/util/Collection")] 81

def k16m0 : Method := { name := "<init>", desc := "()V", sig := { parameters := [], returnType := none }, accessFlags := 4, code := none }
def k16m1 : Method := { name := "size", desc := "()I", sig := { parameters := [], returnType := some .int }, accessFlags := 1025, code := none }
/-- java/util/AbstractCollection -/
def k16 : Class := { plain "java/util/AbstractCollection" (some 0) with
  accessFlags := 1057
  interfaces := #[12]
  cf := some (fileOf pool16 8 #[] #[{ accessFlags := 4, nameIndex := 5, descriptorIndex := 6, attributes := #[] }, { accessFlags := 1025, nameIndex := 11, descriptorIndex := 12, attributes := #[] }] 1057 2 #[77] #[])
  fields := #[]
  methods := #[k16m0, k16m1]
  instanceTypes := #[]
  staticTypes := #[]
  resolved := Array.replicate 160 none
  statics := none }

def pool17 : Array CpInfo := pool [(2, .class_ 4), (1, u "java/util/AbstractCollection"), (0, u "<init>"), (0, u "()V"), (1, .class_ 10), (1, u "java/util/ImmutableCollections"), (2, .class_ 14), (0, u "java/util/ImmutableCollections$AbstractImmutableCollection")] 41

def k17m0 : Method := { name := "<init>", desc := "()V", sig := { parameters := [], returnType := none }, accessFlags := 0, code := none }
/-- java/util/ImmutableCollections$AbstractImmutableCollection -/
def k17 : Class := { plain "java/util/ImmutableCollections$AbstractImmutableCollection" (some 16) with
  accessFlags := 1056
  interfaces := #[]
  cf := some (fileOf pool17 13 #[.nestHost 8] #[{ accessFlags := 0, nameIndex := 5, descriptorIndex := 6, attributes := #[] }] 1056 2 #[] #[])
  fields := #[]
  methods := #[k17m0]
  instanceTypes := #[]
  staticTypes := #[]
  resolved := Array.replicate 56 none
  statics := none }

def pool18 : Array CpInfo := pool [(1, .class_ 2), (0, u "java/util/RandomAccess"), (0, .class_ 4), (0, u "java/lang/Object")] 2

/-- java/util/RandomAccess -/
def k18 : Class := { plain "java/util/RandomAccess" (some 0) with
  accessFlags := 1537
  interfaces := #[]
  cf := some (fileOf pool18 1 #[] #[] 1537 3 #[] #[])
  fields := #[]
  methods := #[]
  instanceTypes := #[]
  staticTypes := #[]
  resolved := Array.replicate 7 none
  statics := none }

def pool19 : Array CpInfo := pool [(2, .class_ 4), (1, u "java/util/ImmutableCollections$AbstractImmutableCollection"), (0, u "<init>"), (0, u "()V"), (1, .class_ 10), (1, u "java/util/ImmutableCollections"), (2, .methodref 14 15), (0, .class_ 16), (0, .nameAndType 17 18), (0, u "java/util/ImmutableCollections$AbstractImmutableList"), (0, u "size"), (0, u "()I"), (42, .class_ 62), (0, u "java/util/ImmutableCollections$ListItr"), (0, .methodref 61 64), (0, .nameAndType 5 65), (0, u "(Ljava/util/List;I)V"), (11, .class_ 78), (0, u "java/util/List"), (2, u "iterator"), (0, u "()Ljava/util/Iterator;"), (41, .class_ 125), (0, u "java/util/RandomAccess")] 70

def k19m0 : Method := { name := "<init>", desc := "()V", sig := { parameters := [], returnType := none }, accessFlags := 0, code := none }
def k19c1 : Code := { maxStack := 4, maxLocals := 1, code := jdk_46_method_10_code, exceptionTable := #[], attributes := #[] }
def k19m1 : Method := { name := "iterator", desc := "()Ljava/util/Iterator;", sig := { parameters := [], returnType := some (.object "java/util/Iterator") }, accessFlags := 1, code := some k19c1 }
/-- java/util/ImmutableCollections$AbstractImmutableList -/
def k19 : Class := { plain "java/util/ImmutableCollections$AbstractImmutableList" (some 17) with
  accessFlags := 1056
  interfaces := #[14, 18]
  cf := some (fileOf pool19 14 #[.nestHost 8] #[{ accessFlags := 0, nameIndex := 5, descriptorIndex := 6, attributes := #[] }, { accessFlags := 1, nameIndex := 81, descriptorIndex := 82, attributes := #[] }] 1056 2 #[77, 124] #[])
  fields := #[]
  methods := #[k19m0, k19m1]
  instanceTypes := #[]
  staticTypes := #[]
  resolved := Array.replicate 196 none
  statics := none }

def pool20 : Array CpInfo := pool [(2, .class_ 4), (1, u "java/util/ImmutableCollections$AbstractImmutableList"), (9, .class_ 16), (1, u "java/util/ImmutableCollections$List12"), (0, u "e0"), (0, u "Ljava/lang/Object;"), (1, .class_ 22), (1, u "java/util/ImmutableCollections"), (3, u "e1"), (43, .class_ 71), (0, u "java/io/Serializable")] 53

/-- java/util/ImmutableCollections$List12 -/
def k20 : Class := { plain "java/util/ImmutableCollections$List12" (some 19) with
  accessFlags := 48
  interfaces := #[2]
  cf := some (fileOf pool20 14 #[.nestHost 20] #[] 48 2 #[70] #[{ accessFlags := 18, nameIndex := 17, descriptorIndex := 18, attributes := #[] }, { accessFlags := 18, nameIndex := 26, descriptorIndex := 18, attributes := #[] }])
  fields := #[{ name := "e0", type := (.object "java/lang/Object"), accessFlags := 18, slot := 0, constantValue := 0 }, { name := "e1", type := (.object "java/lang/Object"), accessFlags := 18, slot := 1, constantValue := 0 }]
  methods := #[]
  instanceTypes := #[(.object "java/lang/Object"), (.object "java/lang/Object")]
  staticTypes := #[]
  resolved := Array.replicate 125 none
  statics := none }

def pool21 : Array CpInfo := pool [(2, .class_ 4), (1, u "java/util/ImmutableCollections$AbstractImmutableList"), (2, .fieldref 8 9), (0, .class_ 10), (0, .nameAndType 11 12), (0, u "java/util/ImmutableCollections$ListN"), (0, u "elements"), (0, u "[Ljava/lang/Object;"), (2, u "allowNulls"), (0, u "Z"), (42, .class_ 60), (0, u "java/io/Serializable"), (16, u "size"), (0, u "()I"), (35, .class_ 115), (0, u "java/util/ImmutableCollections")] 3

def k21c0 : Code := { maxStack := 1, maxLocals := 1, code := jdk_45_method_3_code, exceptionTable := #[], attributes := #[] }
def k21m0 : Method := { name := "size", desc := "()I", sig := { parameters := [], returnType := some .int }, accessFlags := 1, code := some k21c0 }
/-- java/util/ImmutableCollections$ListN -/
def k21 : Class := { plain "java/util/ImmutableCollections$ListN" (some 19) with
  accessFlags := 48
  interfaces := #[2]
  cf := some (fileOf pool21 8 #[.nestHost 114] #[{ accessFlags := 1, nameIndex := 77, descriptorIndex := 78, attributes := #[] }] 48 2 #[59] #[{ accessFlags := 18, nameIndex := 11, descriptorIndex := 12, attributes := #[] }, { accessFlags := 18, nameIndex := 15, descriptorIndex := 16, attributes := #[] }])
  fields := #[{ name := "elements", type := (.array (.object "java/lang/Object")), accessFlags := 18, slot := 0, constantValue := 0 }, { name := "allowNulls", type := .boolean, accessFlags := 18, slot := 1, constantValue := 0 }]
  methods := #[k21m0]
  instanceTypes := #[(.array (.object "java/lang/Object")), .boolean]
  staticTypes := #[]
  resolved := Array.replicate 119 none
  statics := none }

def pool22 : Array CpInfo := pool [(16, .class_ 18), (1, u "java/util/Iterator"), (0, u "hasNext"), (0, u "()Z"), (10, .class_ 32), (0, u "java/lang/Object")] 20

def k22m0 : Method := { name := "hasNext", desc := "()Z", sig := { parameters := [], returnType := some .boolean }, accessFlags := 1025, code := none }
/-- java/util/Iterator -/
def k22 : Class := { plain "java/util/Iterator" (some 0) with
  accessFlags := 1537
  interfaces := #[]
  cf := some (fileOf pool22 16 #[] #[{ accessFlags := 1025, nameIndex := 19, descriptorIndex := 20, attributes := #[] }] 1537 31 #[] #[])
  fields := #[]
  methods := #[k22m0]
  instanceTypes := #[]
  staticTypes := #[]
  resolved := Array.replicate 53 none
  statics := none }

def pool23 : Array CpInfo := pool [(1, .class_ 2), (0, u "java/util/ListIterator"), (0, .class_ 4), (0, u "java/lang/Object"), (0, .class_ 6), (0, u "java/util/Iterator")] 20

/-- java/util/ListIterator -/
def k23 : Class := { plain "java/util/ListIterator" (some 0) with
  accessFlags := 1537
  interfaces := #[22]
  cf := some (fileOf pool23 1 #[] #[] 1537 3 #[5] #[])
  fields := #[]
  methods := #[]
  instanceTypes := #[]
  staticTypes := #[]
  resolved := Array.replicate 27 none
  statics := none }

def pool24 : Array CpInfo := pool [(1, .methodref 2 3), (0, .class_ 4), (0, .nameAndType 5 6), (0, u "java/lang/Object"), (0, u "<init>"), (0, u "()V"), (0, .fieldref 8 9), (0, .class_ 10), (0, .nameAndType 11 12), (0, u "java/util/ImmutableCollections$ListItr"), (0, u "list"), (0, u "Ljava/util/List;"), (0, .fieldref 8 14), (0, .nameAndType 15 16), (0, u "size"), (0, u "I"), (0, .fieldref 8 18), (0, .nameAndType 19 16), (0, u "cursor"), (0, .fieldref 8 21), (0, .nameAndType 22 23), (0, u "isListIterator"), (0, u "Z"), (12, .class_ 38), (1, u "java/util/ImmutableCollections"), (2, .class_ 42), (0, u "java/util/ListIterator"), (4, u "(Ljava/util/List;I)V"), (11, u "hasNext"), (0, u "()Z")] 25

def k24c0 : Code := { maxStack := 2, maxLocals := 3, code := jdk_53_method_1_code, exceptionTable := #[], attributes := #[] }
def k24m0 : Method := { name := "<init>", desc := "(Ljava/util/List;I)V", sig := { parameters := [(.object "java/util/List"), .int], returnType := none }, accessFlags := 0, code := some k24c0 }
def k24c1 : Code := { maxStack := 2, maxLocals := 1, code := jdk_53_method_3_code, exceptionTable := #[], attributes := #[] }
def k24m1 : Method := { name := "hasNext", desc := "()Z", sig := { parameters := [], returnType := some .boolean }, accessFlags := 1, code := some k24c1 }
/-- java/util/ImmutableCollections$ListItr -/
def k24 : Class := { plain "java/util/ImmutableCollections$ListItr" (some 0) with
  accessFlags := 48
  interfaces := #[23]
  cf := some (fileOf pool24 8 #[.nestHost 36] #[{ accessFlags := 0, nameIndex := 5, descriptorIndex := 47, attributes := #[] }, { accessFlags := 1, nameIndex := 59, descriptorIndex := 60, attributes := #[] }] 48 2 #[41] #[{ accessFlags := 18, nameIndex := 11, descriptorIndex := 12, attributes := #[] }, { accessFlags := 18, nameIndex := 15, descriptorIndex := 16, attributes := #[] }, { accessFlags := 18, nameIndex := 22, descriptorIndex := 23, attributes := #[] }, { accessFlags := 2, nameIndex := 19, descriptorIndex := 16, attributes := #[] }])
  fields := #[{ name := "list", type := (.object "java/util/List"), accessFlags := 18, slot := 0, constantValue := 0 }, { name := "size", type := .int, accessFlags := 18, slot := 1, constantValue := 0 }, { name := "isListIterator", type := .boolean, accessFlags := 18, slot := 2, constantValue := 0 }, { name := "cursor", type := .int, accessFlags := 2, slot := 3, constantValue := 0 }]
  methods := #[k24m0, k24m1]
  instanceTypes := #[(.object "java/util/List"), .int, .boolean, .int]
  staticTypes := #[]
  resolved := Array.replicate 86 none
  statics := none }

def pool25 : Array CpInfo := pool [(4, .class_ 6), (1, u "java/lang/Object"), (0, u "<init>"), (0, u "()V"), (5, .class_ 16), (1, u "java/lang/StringLatin1"), (104, u "$assertionsDisabled"), (0, u "Z"), (98, .class_ 223), (1, u "java/lang/StringLatin1$LinesSpliterator"), (166, .class_ 391), (0, u "java/lang/StringLatin1$CharsSpliterator")] 3

def k25m0 : Method := { name := "<init>", desc := "()V", sig := { parameters := [], returnType := none }, accessFlags := 0, code := none }
/-- java/lang/StringLatin1 -/
def k25 : Class := { plain "java/lang/StringLatin1" (some 0) with
  accessFlags := 48
  interfaces := #[]
  cf := some (fileOf pool25 14 #[.nestMembers #[390, 221]] #[{ accessFlags := 0, nameIndex := 7, descriptorIndex := 8, attributes := #[] }] 48 4 #[] #[{ accessFlags := 4120, nameIndex := 121, descriptorIndex := 122, attributes := #[] }])
  fields := #[{ name := "$assertionsDisabled", type := .boolean, accessFlags := 4120, slot := 0, constantValue := 0 }]
  methods := #[k25m0]
  instanceTypes := #[]
  staticTypes := #[.boolean]
  resolved := Array.replicate 395 none
  statics := none }

def pool26 : Array CpInfo := pool [(2, .class_ 4), (1, u "java/lang/Object"), (0, u "<init>"), (0, u "()V"), (17, .class_ 26), (1, u "jdk/internal/util/Preconditions"), (28, .class_ 56), (0, u "jdk/internal/util/Preconditions$4"), (57, .class_ 115), (0, u "jdk/internal/util/Preconditions$1"), (7, u "SIOOBE_FORMATTER"), (0, u "Ljava/util/function/BiFunction;"), (0, .class_ 126), (0, u "jdk/internal/util/Preconditions$2"), (3, u "AIOOBE_FORMATTER"), (0, .class_ 132), (0, u "jdk/internal/util/Preconditions$3"), (3, u "IOOBE_FORMATTER")] 57

def k26m0 : Method := { name := "<init>", desc := "()V", sig := { parameters := [], returnType := none }, accessFlags := 1, code := none }
/-- jdk/internal/util/Preconditions -/
def k26 : Class := { plain "jdk/internal/util/Preconditions" (some 0) with
  accessFlags := 33
  interfaces := #[]
  cf := some (fileOf pool26 24 #[.nestMembers #[55, 131, 125, 114]] #[{ accessFlags := 1, nameIndex := 5, descriptorIndex := 6, attributes := #[] }] 33 2 #[] #[{ accessFlags := 25, nameIndex := 123, descriptorIndex := 124, attributes := #[] }, { accessFlags := 25, nameIndex := 130, descriptorIndex := 124, attributes := #[] }, { accessFlags := 25, nameIndex := 136, descriptorIndex := 124, attributes := #[] }])
  fields := #[{ name := "SIOOBE_FORMATTER", type := (.object "java/util/function/BiFunction"), accessFlags := 25, slot := 0, constantValue := 0 }, { name := "AIOOBE_FORMATTER", type := (.object "java/util/function/BiFunction"), accessFlags := 25, slot := 1, constantValue := 0 }, { name := "IOOBE_FORMATTER", type := (.object "java/util/function/BiFunction"), accessFlags := 25, slot := 2, constantValue := 0 }]
  methods := #[k26m0]
  instanceTypes := #[]
  staticTypes := #[(.object "java/util/function/BiFunction"), (.object "java/util/function/BiFunction"), (.object "java/util/function/BiFunction")]
  resolved := Array.replicate 194 none
  statics := some 2 }

def pool27 : Array CpInfo := pool [(9, u "<init>"), (6, .class_ 18), (1, u "java/lang/Object"), (0, u "()V"), (1, .class_ 23), (1, u "jdk/internal/util/ArraysSupport"), (0, u "LOG2_ARRAY_LONG_INDEX_SCALE"), (0, u "I"), (2, u "U"), (0, u "Ljdk/internal/misc/Unsafe;"), (8, u "BIG_ENDIAN"), (0, u "Z"), (8, u "LOG2_BYTE_BIT_SIZE"), (4, u "LOG2_ARRAY_INT_INDEX_SCALE"), (54, u "JLA"), (0, u "Ljdk/internal/access/JavaLangAccess;"), (11, u "LOG2_ARRAY_BOOLEAN_INDEX_SCALE"), (9, u "LOG2_ARRAY_BYTE_INDEX_SCALE"), (5, u "LOG2_ARRAY_CHAR_INDEX_SCALE"), (5, u "LOG2_ARRAY_SHORT_INDEX_SCALE"), (18, u "LOG2_ARRAY_FLOAT_INDEX_SCALE"), (24, u "LOG2_ARRAY_DOUBLE_INDEX_SCALE"), (89, u "T_BOOLEAN"), (2, u "T_CHAR"), (1, u "T_FLOAT"), (1, u "T_DOUBLE"), (1, u "T_BYTE"), (1, u "T_SHORT"), (1, u "T_INT"), (1, u "T_LONG"), (1, u "SOFT_MAX_ARRAY_LENGTH")] 83

def k27m0 : Method := { name := "<init>", desc := "()V", sig := { parameters := [], returnType := none }, accessFlags := 2, code := none }
/-- jdk/internal/util/ArraysSupport -/
def k27 : Class := { plain "jdk/internal/util/ArraysSupport" (some 0) with
  accessFlags := 33
  interfaces := #[]
  cf := some (fileOf pool27 21 #[] #[{ accessFlags := 2, nameIndex := 9, descriptorIndex := 19, attributes := #[] }] 33 16 #[] #[{ accessFlags := 24, nameIndex := 28, descriptorIndex := 29, attributes := #[] }, { accessFlags := 26, nameIndex := 38, descriptorIndex := 39, attributes := #[] }, { accessFlags := 25, nameIndex := 121, descriptorIndex := 25, attributes := #[] }, { accessFlags := 25, nameIndex := 131, descriptorIndex := 25, attributes := #[] }, { accessFlags := 25, nameIndex := 137, descriptorIndex := 25, attributes := #[] }, { accessFlags := 25, nameIndex := 143, descriptorIndex := 25, attributes := #[] }, { accessFlags := 25, nameIndex := 53, descriptorIndex := 25, attributes := #[] }, { accessFlags := 25, nameIndex := 24, descriptorIndex := 25, attributes := #[] }, { accessFlags := 25, nameIndex := 162, descriptorIndex := 25, attributes := #[] }, { accessFlags := 25, nameIndex := 187, descriptorIndex := 25, attributes := #[] }, { accessFlags := 26, nameIndex := 48, descriptorIndex := 25, attributes := #[] }, { accessFlags := 25, nameIndex := 277, descriptorIndex := 25, attributes := #[] }, { accessFlags := 25, nameIndex := 280, descriptorIndex := 25, attributes := #[] }, { accessFlags := 25, nameIndex := 282, descriptorIndex := 25, attributes := #[] }, { accessFlags := 25, nameIndex := 284, descriptorIndex := 25, attributes := #[] }, { accessFlags := 25, nameIndex := 286, descriptorIndex := 25, attributes := #[] }, { accessFlags := 25, nameIndex := 288, descriptorIndex := 25, attributes := #[] }, { accessFlags := 25, nameIndex := 290, descriptorIndex := 25, attributes := #[] }, { accessFlags := 25, nameIndex := 292, descriptorIndex := 25, attributes := #[] }, { accessFlags := 26, nameIndex := 108, descriptorIndex := 109, attributes := #[] }, { accessFlags := 25, nameIndex := 294, descriptorIndex := 25, attributes := #[] }])
  fields := #[{ name := "U", type := (.object "jdk/internal/misc/Unsafe"), accessFlags := 24, slot := 0, constantValue := 0 }, { name := "BIG_ENDIAN", type := .boolean, accessFlags := 26, slot := 1, constantValue := 0 }, { name := "LOG2_ARRAY_BOOLEAN_INDEX_SCALE", type := .int, accessFlags := 25, slot := 2, constantValue := 0 }, { name := "LOG2_ARRAY_BYTE_INDEX_SCALE", type := .int, accessFlags := 25, slot := 3, constantValue := 0 }, { name := "LOG2_ARRAY_CHAR_INDEX_SCALE", type := .int, accessFlags := 25, slot := 4, constantValue := 0 }, { name := "LOG2_ARRAY_SHORT_INDEX_SCALE", type := .int, accessFlags := 25, slot := 5, constantValue := 0 }, { name := "LOG2_ARRAY_INT_INDEX_SCALE", type := .int, accessFlags := 25, slot := 6, constantValue := 0 }, { name := "LOG2_ARRAY_LONG_INDEX_SCALE", type := .int, accessFlags := 25, slot := 7, constantValue := 0 }, { name := "LOG2_ARRAY_FLOAT_INDEX_SCALE", type := .int, accessFlags := 25, slot := 8, constantValue := 0 }, { name := "LOG2_ARRAY_DOUBLE_INDEX_SCALE", type := .int, accessFlags := 25, slot := 9, constantValue := 0 }, { name := "LOG2_BYTE_BIT_SIZE", type := .int, accessFlags := 26, slot := 10, constantValue := 0 }, { name := "T_BOOLEAN", type := .int, accessFlags := 25, slot := 11, constantValue := 0 }, { name := "T_CHAR", type := .int, accessFlags := 25, slot := 12, constantValue := 0 }, { name := "T_FLOAT", type := .int, accessFlags := 25, slot := 13, constantValue := 0 }, { name := "T_DOUBLE", type := .int, accessFlags := 25, slot := 14, constantValue := 0 }, { name := "T_BYTE", type := .int, accessFlags := 25, slot := 15, constantValue := 0 }, { name := "T_SHORT", type := .int, accessFlags := 25, slot := 16, constantValue := 0 }, { name := "T_INT", type := .int, accessFlags := 25, slot := 17, constantValue := 0 }, { name := "T_LONG", type := .int, accessFlags := 25, slot := 18, constantValue := 0 }, { name := "JLA", type := (.object "jdk/internal/access/JavaLangAccess"), accessFlags := 26, slot := 19, constantValue := 0 }, { name := "SOFT_MAX_ARRAY_LENGTH", type := .int, accessFlags := 25, slot := 20, constantValue := 0 }]
  methods := #[k27m0]
  instanceTypes := #[]
  staticTypes := #[(.object "jdk/internal/misc/Unsafe"), .boolean, .int, .int, .int, .int, .int, .int, .int, .int, .int, .int, .int, .int, .int, .int, .int, .int, .int, (.object "jdk/internal/access/JavaLangAccess"), .int]
  resolved := Array.replicate 378 none
  statics := none }

def pool28 : Array CpInfo := pool [(1, u "java/lang/Cloneable"), (0, .class_ 1), (0, u "java/lang/Object"), (0, .class_ 3)] 3

/-- java/lang/Cloneable -/
def k28 : Class := { plain "java/lang/Cloneable" (some 0) with
  accessFlags := 1537
  interfaces := #[]
  cf := some (fileOf pool28 2 #[] #[] 1537 4 #[] #[])
  fields := #[]
  methods := #[]
  instanceTypes := #[]
  staticTypes := #[]
  resolved := Array.replicate 8 none
  statics := none }

/-- the primitive byte -/
def k29 : Class := { plain "byte" none with kind := .primitive 'B', accessFlags := 0x411 }
/-- [B -/
def k30 : Class := { plain "[B" (some 0) with kind := .array 29 .byte, interfaces := #[28, 2], accessFlags := 1041 }

/-- the primitive char -/
def k31 : Class := { plain "char" none with kind := .primitive 'C', accessFlags := 0x411 }
/-- [C -/
def k32 : Class := { plain "[C" (some 0) with kind := .array 31 .char, interfaces := #[28, 2], accessFlags := 1041 }

/-- the primitive int -/
def k33 : Class := { plain "int" none with kind := .primitive 'I', accessFlags := 0x411 }
/-- [I -/
def k34 : Class := { plain "[I" (some 0) with kind := .array 33 .int, interfaces := #[28, 2], accessFlags := 1041 }

/-- [Ljava/lang/Object; -/
def k35 : Class := { plain "[Ljava/lang/Object;" (some 0) with kind := .array 0 (.object "java/lang/Object"), interfaces := #[28, 2], accessFlags := 1041 }

def heap : Heap := #[{ cls := 7, slots := #[.long 0, .int 1, .null, .int 0, .null, .int 0, .int 0], vm := .statics 7 },
  { cls := 15, slots := #[.long 0, .int 0, .null, .null, .ref 4, .null, .null, .null, .int 0, .int 0], vm := .statics 15 },
  { cls := 26, slots := #[.null, .null, .null], vm := .statics 26 },
  { cls := 35, slots := #[], vm := .none },
  { cls := 21, slots := #[.ref 3, .int 0], vm := .none }]
def classes : Array Class := #[k0, k1, k2, k3, k4, k5, k6, k7, k8, k9, k10, k11, k12, k13, k14, k15, k16, k17, k18, k19, k20, k21, k22, k23, k24, k25, k26, k27, k28, k29, k30, k31, k32, k33, k34, k35]
def interned : List (Array UInt16 × Addr) := []
def slotsUsed : Nat := 22
def theMethod : MethodId := ⟨1, 1⟩
def args0 : Array Value := #[.int 3, .int 5, .int 6, .int 2, .int 9]
def aboutOver (below : List Frame) : State where
  vm := { classes := classes, interned := interned.toArray }
  heap := heap
  slotsUsed := slotsUsed
  threads := #[{ frames := .invoking theMethod args0 :: below }]
def below0 : List Frame := [.native { method := ⟨0, 0⟩, args := #[] }]
def about1 : State := aboutOver below0
def p0 : Program := .bare "" "" ""
def e0 : Env := launch0.env 0 0 0
theorem w_frames : about1.frames = Frame.invoking theMethod args0 :: below0 := rfl
set_option maxRecDepth 65536 in
theorem w_args : argsFit about1.vm theMethod args0 = true := by decide +kernel
set_option maxRecDepth 65536 in
theorem w_heap : heapFits about1 = true := by decide +kernel
set_option maxRecDepth 65536 in
theorem w_runnable : about1.curStatus? = some .runnable := by decide +kernel
set_option maxRecDepth 65536 in
theorem w_alone : about1.alone = true := by decide +kernel
set_option maxRecDepth 65536 in
theorem w_named : about1.methodNamed? x = some theMethod := by decide +kernel
set_option maxRecDepth 65536 in
theorem w_hears : about1.hears theMethod below0 = true := by decide +kernel
set_option maxRecDepth 65536 in
theorem w_ripe : about1.ripe theMethod args0 below0 = true := by decide +kernel
theorem w_running : about1.status = .running := rfl
set_option maxRecDepth 65536 in
theorem w_room : about1.hasRoom e0.platform room_1 = true :=
  launch0.hasRoom_least _ room_1 (by decide +kernel) (by decide +kernel) (by decide +kernel) (by decide +kernel) (by decide +kernel) (by decide +kernel)
theorem allAtoms_all (ts : List Jvm.Cond) (a : Array Jvm.Value) (st : Jvm.State) : (allAtoms ts).before a st = ts.all (fun c => c.before a st) := by
  induction ts with
  | nil => rfl
  | cons c t ih =>
    show (Jvm.Cond.and c (allAtoms t)).before a st = _
    rw [Jvm.Cond.before_and, ih, List.all_cons]
def words1 : List Jvm.Cond := Jvm.Cond.code x code maxLocals ret :: tables_1
/-- a 'code' word, met by the world's own term for the bytes: nothing is compared byte by byte -/
theorem code_word {y : MethodName} {bytes : ByteArray} {mx : Nat} {rt : Option FieldType} {a : Array Value} {s : State} {m : MethodId} {meth : Method} {c : Code} (h1 : s.methodNamed? y = some m) (h2 : s.vm.method? m = some meth) (h3 : meth.code = some c) (h4 : c.code = bytes)
    (h5 : (c.maxLocals == mx && c.exceptionTable.isEmpty && decide (c.maxStack ≤ mostOperands) && decide (meth.sig.returnType = rt) && !meth.locks && decide (parseMethodDescriptor y.desc = some meth.sig)) = true) : (Jvm.Cond.code y bytes mx rt).before a s = true := by
  simp only [Bool.and_eq_true, beq_iff_eq, Bool.not_eq_true', decide_eq_true_eq] at h5
  obtain ⟨⟨⟨⟨⟨g1, g2⟩, g3⟩, g4⟩, g5⟩, g6⟩ := h5
  simp [Cond.before, Cond.holds, Cond.value, h1, h2, h3, h4, g1, g2, g3, g4, g5, g6]
def isCode : Jvm.Cond → Bool
  | .code _ _ _ _ => true
  | _ => false
theorem all_split {L : List Jvm.Cond} {P : Jvm.Cond → Bool} (h1 : L.all (fun c => isCode c || P c) = true) (h2 : ∀ c ∈ L.filter isCode, P c = true) : L.all P = true := by
  refine List.all_eq_true.mpr fun c hc => ?_
  have h := List.all_eq_true.mp h1 c hc
  rcases Bool.eq_false_or_eq_true (isCode c) with hi | hi
  · exact h2 c (List.mem_filter.mpr ⟨hc, hi⟩)
  · simpa [hi] using h
set_option maxRecDepth 65536 in
theorem w_c0 : (Jvm.Cond.code x code maxLocals ret).before args0 about1 = true := code_word (m := ⟨1, 1⟩) (meth := k1m1) (c := k1c1) (by decide +kernel) rfl rfl rfl (by decide +kernel)
set_option maxRecDepth 65536 in
theorem w_c1 : (Jvm.Cond.code ({ cls := "java/lang/String", name := "<init>", desc := "([C)V" } : Jvm.MethodName) jdk_42_method_3_code (2 : Nat) (Option.none : Option Jvm.ClassFile.FieldType)).before args0 about1 = true := code_word (m := ⟨7, 1⟩) (meth := k7m1) (c := k7c1) (by decide +kernel) rfl rfl rfl (by decide +kernel)
set_option maxRecDepth 65536 in
theorem w_c2 : (Jvm.Cond.code ({ cls := "java/lang/String", name := "<init>", desc := "([CIILjava/lang/Void;)V" } : Jvm.MethodName) jdk_42_method_149_code (6 : Nat) (Option.none : Option Jvm.ClassFile.FieldType)).before args0 about1 = true := code_word (m := ⟨7, 3⟩) (meth := k7m3) (c := k7c3) (by decide +kernel) rfl rfl rfl (by decide +kernel)
set_option maxRecDepth 65536 in
theorem w_c3 : (Jvm.Cond.code ({ cls := "java/lang/Object", name := "<init>", desc := "()V" } : Jvm.MethodName) object_method_1_code (1 : Nat) (Option.none : Option Jvm.ClassFile.FieldType)).before args0 about1 = true := code_word (m := ⟨0, 0⟩) (meth := k0m0) (c := k0c0) (by decide +kernel) rfl rfl rfl (by decide +kernel)
set_option maxRecDepth 65536 in
theorem w_c4 : (Jvm.Cond.code ({ cls := "java/lang/StringUTF16", name := "compress", desc := "([CII)[B" } : Jvm.MethodName) jdk_52_method_16_code (6 : Nat) (Option.some (Jvm.ClassFile.FieldType.array Jvm.ClassFile.FieldType.byte))).before args0 about1 = true := code_word (m := ⟨8, 2⟩) (meth := k8m2) (c := k8c2) (by decide +kernel) rfl rfl rfl (by decide +kernel)
set_option maxRecDepth 65536 in
theorem w_c5 : (Jvm.Cond.code ({ cls := "java/lang/StringUTF16", name := "compress", desc := "([CI[BII)I" } : Jvm.MethodName) jdk_52_method_21_code (7 : Nat) (Option.some Jvm.ClassFile.FieldType.int)).before args0 about1 = true := code_word (m := ⟨8, 3⟩) (meth := k8m3) (c := k8c3) (by decide +kernel) rfl rfl rfl (by decide +kernel)
set_option maxRecDepth 65536 in
theorem w_c6 : (Jvm.Cond.code ({ cls := "java/lang/StringUTF16", name := "coderFromArrayLen", desc := "([BI)B" } : Jvm.MethodName) jdk_52_method_15_code (2 : Nat) (Option.some Jvm.ClassFile.FieldType.byte)).before args0 about1 = true := code_word (m := ⟨8, 1⟩) (meth := k8m1) (c := k8c1) (by decide +kernel) rfl rfl rfl (by decide +kernel)
set_option maxRecDepth 65536 in
theorem w_c7 : (Jvm.Cond.code ({ cls := "com/example/quaymark/quaymark/Review", name := "submitted", desc := "(Ljava/lang/String;)Lcom/example/quaymark/quaymark/Review;" } : Jvm.MethodName) prog_23_method_2_code (1 : Nat) (Option.some (Jvm.ClassFile.FieldType.object "com/example/quaymark/quaymark/Review"))).before args0 about1 = true := code_word (m := ⟨10, 1⟩) (meth := k10m1) (c := k10c1) (by decide +kernel) rfl rfl rfl (by decide +kernel)
set_option maxRecDepth 65536 in
theorem w_c8 : (Jvm.Cond.code ({ cls := "java/util/List", name := "of", desc := "()Ljava/util/List;" } : Jvm.MethodName) jdk_40_method_36_code (0 : Nat) (Option.some (Jvm.ClassFile.FieldType.object "java/util/List"))).before args0 about1 = true := code_word (m := ⟨14, 2⟩) (meth := k14m2) (c := k14c2) (by decide +kernel) rfl rfl rfl (by decide +kernel)
set_option maxRecDepth 65536 in
theorem w_c9 : (Jvm.Cond.code ({ cls := "com/example/quaymark/quaymark/Review", name := "<init>", desc := "(Ljava/lang/String;Ljava/util/List;Ljava/lang/String;Lcom/example/quaymark/quaymark/Review$Withdrawal;)V" } : Jvm.MethodName) prog_23_method_1_code (5 : Nat) (Option.none : Option Jvm.ClassFile.FieldType)).before args0 about1 = true := code_word (m := ⟨10, 0⟩) (meth := k10m0) (c := k10c0) (by decide +kernel) rfl rfl rfl (by decide +kernel)
set_option maxRecDepth 65536 in
theorem w_c10 : (Jvm.Cond.code ({ cls := "java/lang/Record", name := "<init>", desc := "()V" } : Jvm.MethodName) jdk_30_method_1_code (1 : Nat) (Option.none : Option Jvm.ClassFile.FieldType)).before args0 about1 = true := code_word (m := ⟨9, 0⟩) (meth := k9m0) (c := k9c0) (by decide +kernel) rfl rfl rfl (by decide +kernel)
set_option maxRecDepth 65536 in
theorem w_c11 : (Jvm.Cond.code ({ cls := "java/util/List", name := "copyOf", desc := "(Ljava/util/Collection;)Ljava/util/List;" } : Jvm.MethodName) jdk_40_method_48_code (1 : Nat) (Option.some (Jvm.ClassFile.FieldType.object "java/util/List"))).before args0 about1 = true := code_word (m := ⟨14, 3⟩) (meth := k14m3) (c := k14c3) (by decide +kernel) rfl rfl rfl (by decide +kernel)
set_option maxRecDepth 65536 in
theorem w_c12 : (Jvm.Cond.code ({ cls := "java/util/ImmutableCollections", name := "listCopy", desc := "(Ljava/util/Collection;)Ljava/util/List;" } : Jvm.MethodName) jdk_56_method_3_code (2 : Nat) (Option.some (Jvm.ClassFile.FieldType.object "java/util/List"))).before args0 about1 = true := code_word (m := ⟨15, 1⟩) (meth := k15m1) (c := k15c1) (by decide +kernel) rfl rfl rfl (by decide +kernel)
set_option maxRecDepth 65536 in
theorem w_c13 : (Jvm.Cond.code ({ cls := "com/example/quaymark/quaymark/Review", name := "submittedBy", desc := "()Ljava/lang/String;" } : Jvm.MethodName) prog_23_method_12_code (1 : Nat) (Option.some (Jvm.ClassFile.FieldType.object "java/lang/String"))).before args0 about1 = true := code_word (m := ⟨10, 3⟩) (meth := k10m3) (c := k10c3) (by decide +kernel) rfl rfl rfl (by decide +kernel)
set_option maxRecDepth 65536 in
theorem w_c14 : (Jvm.Cond.code ({ cls := "java/lang/String", name := "equals", desc := "(Ljava/lang/Object;)Z" } : Jvm.MethodName) jdk_42_method_66_code (3 : Nat) (Option.some Jvm.ClassFile.FieldType.boolean)).before args0 about1 = true := code_word (m := ⟨7, 2⟩) (meth := k7m2) (c := k7c2) (by decide +kernel) rfl rfl rfl (by decide +kernel)
set_option maxRecDepth 65536 in
theorem w_c15 : (Jvm.Cond.code ({ cls := "com/example/quaymark/quaymark/Review", name := "leftOut", desc := "()Ljava/util/List;" } : Jvm.MethodName) prog_23_method_13_code (1 : Nat) (Option.some (Jvm.ClassFile.FieldType.object "java/util/List"))).before args0 about1 = true := code_word (m := ⟨10, 4⟩) (meth := k10m4) (c := k10c4) (by decide +kernel) rfl rfl rfl (by decide +kernel)
set_option maxRecDepth 65536 in
theorem w_c16 : (Jvm.Cond.code ({ cls := "java/util/ImmutableCollections$ListN", name := "size", desc := "()I" } : Jvm.MethodName) jdk_45_method_3_code (1 : Nat) (Option.some Jvm.ClassFile.FieldType.int)).before args0 about1 = true := code_word (m := ⟨21, 0⟩) (meth := k21m0) (c := k21c0) (by decide +kernel) rfl rfl rfl (by decide +kernel)
set_option maxRecDepth 65536 in
theorem w_c17 : (Jvm.Cond.code ({ cls := "com/example/quaymark/quaymark/Review", name := "signedOffBy", desc := "()Ljava/lang/String;" } : Jvm.MethodName) prog_23_method_14_code (1 : Nat) (Option.some (Jvm.ClassFile.FieldType.object "java/lang/String"))).before args0 about1 = true := code_word (m := ⟨10, 5⟩) (meth := k10m5) (c := k10c5) (by decide +kernel) rfl rfl rfl (by decide +kernel)
set_option maxRecDepth 65536 in
theorem w_c18 : (Jvm.Cond.code ({ cls := "com/example/quaymark/quaymark/Review", name := "withdrawn", desc := "()Lcom/example/quaymark/quaymark/Review$Withdrawal;" } : Jvm.MethodName) prog_23_method_15_code (1 : Nat) (Option.some (Jvm.ClassFile.FieldType.object "com/example/quaymark/quaymark/Review$Withdrawal"))).before args0 about1 = true := code_word (m := ⟨10, 6⟩) (meth := k10m6) (c := k10c6) (by decide +kernel) rfl rfl rfl (by decide +kernel)
set_option maxRecDepth 65536 in
theorem w_c19 : (Jvm.Cond.code ({ cls := "com/example/quaymark/quaymark/Review", name := "leftOut", desc := "(I)Lcom/example/quaymark/quaymark/Review$LeftOut;" } : Jvm.MethodName) prog_23_method_6_code (4 : Nat) (Option.some (Jvm.ClassFile.FieldType.object "com/example/quaymark/quaymark/Review$LeftOut"))).before args0 about1 = true := code_word (m := ⟨10, 2⟩) (meth := k10m2) (c := k10c2) (by decide +kernel) rfl rfl rfl (by decide +kernel)
set_option maxRecDepth 65536 in
theorem w_c20 : (Jvm.Cond.code ({ cls := "java/util/ImmutableCollections$AbstractImmutableList", name := "iterator", desc := "()Ljava/util/Iterator;" } : Jvm.MethodName) jdk_46_method_10_code (1 : Nat) (Option.some (Jvm.ClassFile.FieldType.object "java/util/Iterator"))).before args0 about1 = true := code_word (m := ⟨19, 1⟩) (meth := k19m1) (c := k19c1) (by decide +kernel) rfl rfl rfl (by decide +kernel)
set_option maxRecDepth 65536 in
theorem w_c21 : (Jvm.Cond.code ({ cls := "java/util/ImmutableCollections$ListItr", name := "<init>", desc := "(Ljava/util/List;I)V" } : Jvm.MethodName) jdk_53_method_1_code (3 : Nat) (Option.none : Option Jvm.ClassFile.FieldType)).before args0 about1 = true := code_word (m := ⟨24, 0⟩) (meth := k24m0) (c := k24c0) (by decide +kernel) rfl rfl rfl (by decide +kernel)
set_option maxRecDepth 65536 in
theorem w_c22 : (Jvm.Cond.code ({ cls := "java/util/ImmutableCollections$ListItr", name := "hasNext", desc := "()Z" } : Jvm.MethodName) jdk_53_method_3_code (1 : Nat) (Option.some Jvm.ClassFile.FieldType.boolean)).before args0 about1 = true := code_word (m := ⟨24, 1⟩) (meth := k24m1) (c := k24c1) (by decide +kernel) rfl rfl rfl (by decide +kernel)
def codes1 : List Jvm.Cond := [Jvm.Cond.code x code maxLocals ret, Jvm.Cond.code ({ cls := "java/lang/String", name := "<init>", desc := "([C)V" } : Jvm.MethodName) jdk_42_method_3_code (2 : Nat) (Option.none : Option Jvm.ClassFile.FieldType), Jvm.Cond.code ({ cls := "java/lang/String", name := "<init>", desc := "([CIILjava/lang/Void;)V" } : Jvm.MethodName) jdk_42_method_149_code (6 : Nat) (Option.none : Option Jvm.ClassFile.FieldType), Jvm.Cond.code ({ cls := "java/lang/Object", name := "<init>", desc := "()V" } : Jvm.MethodName) object_method_1_code (1 : Nat) (Option.none : Option Jvm.ClassFile.FieldType), Jvm.Cond.code ({ cls := "java/lang/StringUTF16", name := "compress", desc := "([CII)[B" } : Jvm.MethodName) jdk_52_method_16_code (6 : Nat) (Option.some (Jvm.ClassFile.FieldType.array Jvm.ClassFile.FieldType.byte)), Jvm.Cond.code ({ cls := "java/lang/StringUTF16", name := "compress", desc := "([CI[BII)I" } : Jvm.MethodName) jdk_52_method_21_code (7 : Nat) (Option.some Jvm.ClassFile.FieldType.int), Jvm.Cond.code ({ cls := "java/lang/StringUTF16", name := "coderFromArrayLen", desc := "([BI)B" } : Jvm.MethodName) jdk_52_method_15_code (2 : Nat) (Option.some Jvm.ClassFile.FieldType.byte), Jvm.Cond.code ({ cls := "com/example/quaymark/quaymark/Review", name := "submitted", desc := "(Ljava/lang/String;)Lcom/example/quaymark/quaymark/Review;" } : Jvm.MethodName) prog_23_method_2_code (1 : Nat) (Option.some (Jvm.ClassFile.FieldType.object "com/example/quaymark/quaymark/Review")), Jvm.Cond.code ({ cls := "java/util/List", name := "of", desc := "()Ljava/util/List;" } : Jvm.MethodName) jdk_40_method_36_code (0 : Nat) (Option.some (Jvm.ClassFile.FieldType.object "java/util/List")), Jvm.Cond.code ({ cls := "com/example/quaymark/quaymark/Review", name := "<init>", desc := "(Ljava/lang/String;Ljava/util/List;Ljava/lang/String;Lcom/example/quaymark/quaymark/Review$Withdrawal;)V" } : Jvm.MethodName) prog_23_method_1_code (5 : Nat) (Option.none : Option Jvm.ClassFile.FieldType), Jvm.Cond.code ({ cls := "java/lang/Record", name := "<init>", desc := "()V" } : Jvm.MethodName) jdk_30_method_1_code (1 : Nat) (Option.none : Option Jvm.ClassFile.FieldType), Jvm.Cond.code ({ cls := "java/util/List", name := "copyOf", desc := "(Ljava/util/Collection;)Ljava/util/List;" } : Jvm.MethodName) jdk_40_method_48_code (1 : Nat) (Option.some (Jvm.ClassFile.FieldType.object "java/util/List")), Jvm.Cond.code ({ cls := "java/util/ImmutableCollections", name := "listCopy", desc := "(Ljava/util/Collection;)Ljava/util/List;" } : Jvm.MethodName) jdk_56_method_3_code (2 : Nat) (Option.some (Jvm.ClassFile.FieldType.object "java/util/List")), Jvm.Cond.code ({ cls := "com/example/quaymark/quaymark/Review", name := "submittedBy", desc := "()Ljava/lang/String;" } : Jvm.MethodName) prog_23_method_12_code (1 : Nat) (Option.some (Jvm.ClassFile.FieldType.object "java/lang/String")), Jvm.Cond.code ({ cls := "java/lang/String", name := "equals", desc := "(Ljava/lang/Object;)Z" } : Jvm.MethodName) jdk_42_method_66_code (3 : Nat) (Option.some Jvm.ClassFile.FieldType.boolean), Jvm.Cond.code ({ cls := "com/example/quaymark/quaymark/Review", name := "leftOut", desc := "()Ljava/util/List;" } : Jvm.MethodName) prog_23_method_13_code (1 : Nat) (Option.some (Jvm.ClassFile.FieldType.object "java/util/List")), Jvm.Cond.code ({ cls := "java/util/ImmutableCollections$ListN", name := "size", desc := "()I" } : Jvm.MethodName) jdk_45_method_3_code (1 : Nat) (Option.some Jvm.ClassFile.FieldType.int), Jvm.Cond.code ({ cls := "com/example/quaymark/quaymark/Review", name := "signedOffBy", desc := "()Ljava/lang/String;" } : Jvm.MethodName) prog_23_method_14_code (1 : Nat) (Option.some (Jvm.ClassFile.FieldType.object "java/lang/String")), Jvm.Cond.code ({ cls := "com/example/quaymark/quaymark/Review", name := "withdrawn", desc := "()Lcom/example/quaymark/quaymark/Review$Withdrawal;" } : Jvm.MethodName) prog_23_method_15_code (1 : Nat) (Option.some (Jvm.ClassFile.FieldType.object "com/example/quaymark/quaymark/Review$Withdrawal")), Jvm.Cond.code ({ cls := "com/example/quaymark/quaymark/Review", name := "leftOut", desc := "(I)Lcom/example/quaymark/quaymark/Review$LeftOut;" } : Jvm.MethodName) prog_23_method_6_code (4 : Nat) (Option.some (Jvm.ClassFile.FieldType.object "com/example/quaymark/quaymark/Review$LeftOut")), Jvm.Cond.code ({ cls := "java/util/ImmutableCollections$AbstractImmutableList", name := "iterator", desc := "()Ljava/util/Iterator;" } : Jvm.MethodName) jdk_46_method_10_code (1 : Nat) (Option.some (Jvm.ClassFile.FieldType.object "java/util/Iterator")), Jvm.Cond.code ({ cls := "java/util/ImmutableCollections$ListItr", name := "<init>", desc := "(Ljava/util/List;I)V" } : Jvm.MethodName) jdk_53_method_1_code (3 : Nat) (Option.none : Option Jvm.ClassFile.FieldType), Jvm.Cond.code ({ cls := "java/util/ImmutableCollections$ListItr", name := "hasNext", desc := "()Z" } : Jvm.MethodName) jdk_53_method_3_code (1 : Nat) (Option.some Jvm.ClassFile.FieldType.boolean)]
set_option maxRecDepth 65536 in
theorem codes_eq : words1.filter isCode = codes1 := rfl
theorem w_codes : ∀ c ∈ words1.filter isCode, c.before args0 about1 = true := by
  rw [codes_eq]
  intro c hc
  simp only [codes1, List.mem_cons, List.not_mem_nil, or_false] at hc
  rcases hc with rfl | rfl | rfl | rfl | rfl | rfl | rfl | rfl | rfl | rfl | rfl | rfl | rfl | rfl | rfl | rfl | rfl | rfl | rfl | rfl | rfl | rfl | rfl
  · exact w_c0
  · exact w_c1
  · exact w_c2
  · exact w_c3
  · exact w_c4
  · exact w_c5
  · exact w_c6
  · exact w_c7
  · exact w_c8
  · exact w_c9
  · exact w_c10
  · exact w_c11
  · exact w_c12
  · exact w_c13
  · exact w_c14
  · exact w_c15
  · exact w_c16
  · exact w_c17
  · exact w_c18
  · exact w_c19
  · exact w_c20
  · exact w_c21
  · exact w_c22
set_option maxRecDepth 65536 in
theorem w_t1 : (words1.take 24).all (fun c => isCode c || c.before args0 about1) = true := by decide +kernel
set_option maxRecDepth 65536 in
theorem w_t2 : ((words1.drop 24).take 24).all (fun c => isCode c || c.before args0 about1) = true := by decide +kernel
set_option maxRecDepth 65536 in
theorem w_t3 : (((words1.drop 24).drop 24).take 24).all (fun c => isCode c || c.before args0 about1) = true := by decide +kernel
set_option maxRecDepth 65536 in
theorem w_t4 : ((((words1.drop 24).drop 24).drop 24).take 24).all (fun c => isCode c || c.before args0 about1) = true := by decide +kernel
set_option maxRecDepth 65536 in
theorem w_t5 : (((((words1.drop 24).drop 24).drop 24).drop 24).take 24).all (fun c => isCode c || c.before args0 about1) = true := by decide +kernel
set_option maxRecDepth 65536 in
theorem w_t6 : ((((((words1.drop 24).drop 24).drop 24).drop 24).drop 24).take 24).all (fun c => isCode c || c.before args0 about1) = true := by decide +kernel
set_option maxRecDepth 65536 in
theorem w_t7 : ((((((words1.drop 24).drop 24).drop 24).drop 24).drop 24).drop 24).all (fun c => isCode c || c.before args0 about1) = true := by decide +kernel
theorem w_tables : (allAtoms (Jvm.Cond.code x code maxLocals ret :: tables_1)).before args0 about1 = true := by
  rw [allAtoms_all]
  show words1.all (fun c => c.before args0 about1) = true
  refine all_split ?_ w_codes
  rw [← List.take_append_drop 24 words1, List.all_append, w_t1, ← List.take_append_drop 24 (words1.drop 24), List.all_append, w_t2, ← List.take_append_drop 24 ((words1.drop 24).drop 24), List.all_append, w_t3, ← List.take_append_drop 24 (((words1.drop 24).drop 24).drop 24), List.all_append, w_t4, ← List.take_append_drop 24 ((((words1.drop 24).drop 24).drop 24).drop 24), List.all_append, w_t5, ← List.take_append_drop 24 (((((words1.drop 24).drop 24).drop 24).drop 24).drop 24), List.all_append, w_t6, w_t7]
  rfl
set_option maxRecDepth 65536 in
theorem w_rest : rest_1_c.before args0 about1 = true := by decide +kernel
set_option maxRecDepth 65536 in
theorem w_case : (Jvm.Cond.and given_1 narrow_1).before args0 about1 = true := by decide +kernel
set_option maxRecDepth 65536 in
theorem w_consts : constsHeld consts_1 about1 := Jvm.Lit.constsHeldB_iff.mp (by decide +kernel)
theorem w_applies : (headSpec (Jvm.Cond.code x code maxLocals ret :: tables_1) room_1).applies x e0.platform about1 = true :=
  (Spec.applies_iff w_frames).mpr ⟨w_running, w_runnable, w_alone, w_named, w_hears, w_ripe, w_room, w_tables⟩
theorem atStart : AtStart classFile x code maxLocals ret World_1 tables_1 room_1 Calls_1 rest_1 Pre_1 launch0 p0 e0 about1 theMethod args0 below0 :=
  ⟨lists_1, trivial, launch0.admits_env _ _ _, launch0.least_env, fairChoices_fair.cas, fairChoices_fair.clock, w_frames, w_args, w_heap, w_applies, ⟨w_consts, trivial⟩, w_rest, w_case⟩
end start1
theorem witness_1 : WitnessClaimed_1 := ⟨start1.p0, start1.e0, start1.about1, start1.theMethod, start1.args0, start1.below0, start1.atStart⟩
end Jvm.Pilot.@@N@@
