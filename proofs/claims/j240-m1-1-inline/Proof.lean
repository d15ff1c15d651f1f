import JvmDerived
import JvmDerived.Pilot.@@N@@Statement
import JvmDerived.Pilot.@@N@@Code
set_option linter.unusedVariables false
set_option linter.unusedSimpArgs false
@@BLOCK:TracedD.lean.txt@@
namespace Jvm.Stand
open ClassFile Sem Op Lib Bundle Jvm.Free Jvm.Free.SB Jvm.Free.SBG
section ldcColdNS
variable {p : Program} {l : Launch} {e : Env} {R : Room} {s : State} {m : MethodId} {args : Array Value} {below : List Frame} {meth : Method} {c : Code} {T : State} {locs : List Loc} {cells slots : Nat}
set_option maxHeartbeats 4000000 in
theorem ldcWColdN (X : Stand p l e R s m args below meth c T locs cells slots) (hexec : p.tables.exec = Jvm.exec) {own text : String} {index : Nat} (hown : s.vm.findClass own = some m.cls)
    (hlink : (Cond.stringLink own index text).before args s = true) (hS : ∀ a ∈ Bundle.stringAtoms, a.before args s = true)
    {g : JFrame} (hg : g.method = m) (hdg : decode c.code g.pc = .ok (.ldc_w index, 3)) {n : Nat} (hn : 4 * text.toList.length ≤ n) (hbig : n ≤ 536870912)
    (hRcells : cells + 2 ≤ R.cells) (hRslots : slots + (n + 4) ≤ R.slots) :
    ∃ (a : Addr) (T₂ : State), Stand p l e R (s.setVm T₂.vm) m args below meth c T₂ locs (cells + 2) (slots + (n + 4)) ∧ s.Since T₂.vm T₂.heap.size ∧                                                                                                                 
      (∃ k₂, T₂.vm.classes[m.cls]? = some k₂ ∧ k₂.resolved[index]? = some (some (.string a))) ∧                                                                                                                                                        
      (∀ a0, a0 < T.heap.size → T₂.heap[a0]? = T.heap[a0]?) ∧                                                                                                         
      T.Warmed39 T₂.vm ∧ (T₂.vm.interned = T.vm.interned ∨ ∃ units : Array UInt16, utf16ToString? units = some text ∧ T₂.vm.interned = T.vm.interned.push (units, a) ∧ T.vm.interned.find? (fun p => p.1 == units) = none ∧ (units.all (· < 256) = true → SlIn 0 T.heap.size T₂ a units)) ∧                                                                                                                                 
      ∀ target, Steps p.tables e below (T₂.setTop { g with pc := g.pc + 3, stack := .ref a :: g.stack }) target → Steps p.tables e below (T.setTop g) target := by
  obtain ⟨k, cf, i, units, hk, hcf, hc, hu, hnm, hdec, hres⟩ := Cond.stringLink_spec hown hlink
  obtain ⟨k', hk', he⟩ := X.warmed.alike.2.2 _ _ hk
  have hcf' : k'.cf = some cf := by rw [he]; exact hcf
  have hbytes : (stringBytes units).size ≤ n := Nat.le_trans (text_bytes_le hdec) hn
  have hnow : (k'.resolved[index]? = some none ∧ k.resolved[index]? = some none) ∨ ∃ a, k'.resolved[index]? = some (some (.string a)) := by
    obtain ⟨k'', ha'', -, -, ee, -⟩ := X.warmed.wide.2.2.2 _ k hk
    cases hk'.symm.trans ha''
    rcases ee index with e0 | ⟨hop, r, e1, hr | ⟨a, t, si, us, rfl, -, q3, q4, q5⟩⟩
    · rcases hres with h0 | ⟨a, h0⟩
      · exact Or.inl ⟨e0.trans h0, h0⟩
      · exact Or.inr ⟨a, e0.trans h0⟩
    · exfalso
      cases r <;> simp [State.rightAt, hk, hcf, hnm] at hr
    · rw [hcf] at q3 q4
      have e3 : si = i := by
        have := q3.symm.trans hc
        simpa using this
      subst e3
      have e4 : us = units := by simpa [ConstantPool.utf8?, hu] using q4.symm
      subst e4
      exact Or.inr ⟨a, e1⟩
  subst hg
  rcases hnow with ⟨hopen, hopen0⟩ | ⟨a, hr'⟩
  · have q2 : k.cf.bind (namesOf? ·.constantPool index) = some (.string text) := by rw [hcf]; exact hnm
    have q3 : k.cf.bind (·.constantPool[index]?) = some (.string i) := by rw [hcf]; exact hc
    have q4 : k.cf.bind (·.constantPool.utf8? i) = some units := by rw [hcf]; simp [ConstantPool.utf8?, hu]
    have r2 : k'.cf.bind (namesOf? ·.constantPool index) = some (.string text) := by rw [hcf']; exact hnm
    have r3 : k'.cf.bind (·.constantPool[index]?) = some (.string i) := by rw [hcf']; exact hc
    have r4 : k'.cf.bind (·.constantPool.utf8? i) = some units := by rw [hcf']; simp [ConstantPool.utf8?, hu]
    cases hf : T.vm.interned.find? (fun p => p.1 == units) with
    | some pr =>
      obtain ⟨u', a⟩ := pr
      have hu' : u' = units := by
        have := Array.find?_some hf
        simpa using this
      subst hu'
      have hW : s.Warmed39 (T.vm.noted g.method.cls index (.string a)) := X.warmed.wide.notedString hk (Or.inl hopen0) q2 q3 q4 hf
      refine ⟨a, T.setVm (T.vm.noted g.method.cls index (.string a)), (X.mono (by omega) (by omega)).retabled hW, ⟨hW, State.Booked.step (T₂ := T.setVm (T.vm.noted g.method.cls index (.string a))) (X.warmed.no_new_pair _) X.same.2.1 ⟨Nat.le_refl _, Or.inl rfl⟩⟩, ⟨_, Vm.classes_note_self index (.string a) hk', Class.resolved_note_self (.string a) hopen⟩, fun _ _ => rfl, (State.Warmed39.refl T).notedString hk' (Or.inl hopen) r2 r3 r4 hf, Or.inl rfl, fun target hrest => ?_⟩
      jvm_step X.here [hexec, hdg, ldc_w.wp_string_found (e := e) (s := T) (f := g) X.here.top hk' hcf' hc hu hopen hf]
      exact hrest
    | none =>
      obtain ⟨Zs, LZs, hn4, hfitv, hfitc⟩ := StringT.of_atoms (args := args) hS
      obtain ⟨kS', kB', LZ', htyS⟩ := LZs.warmer X.warmed.alike
      have hfs : T.fitsSlot = s.fitsSlot := (show T.fitsSlot = (s.setVm T.vm).fitsSlot from rfl).trans (State.fitsSlot_setVm X.warmed.alike)
      have hpush : ({ T.vm with interned := T.vm.interned.push (units, T.heap.size + 1) } : Vm).interned.find? (fun p => p.1 == units) = some (units, T.heap.size + 1) := by
        show (T.vm.interned.push (units, T.heap.size + 1)).find? _ = _
        rw [Array.find?_push, hf]; simp
      have hW : s.Warmed39 (({ T.vm with interned := T.vm.interned.push (units, T.heap.size + 1) } : Vm).noted g.method.cls index (.string (T.heap.size + 1))) :=
        (X.warmed.wide.interns units (T.heap.size + 1)).notedString hk (Or.inl hopen0) q2 q3 q4 hpush
      have X2 := (X.pushed (bytesOf Zs.cB units)).pushed (stringAt Zs.cS kS' Zs.fv Zs.fc units T.heap.size)
      rw [← withString_eq] at X2
      have hkeep : ∀ a0, a0 < T.heap.size → ((withString T Zs.cB Zs.cS kS' Zs.fv Zs.fc units).setVm (({ T.vm with interned := T.vm.interned.push (units, T.heap.size + 1) } : Vm).noted g.method.cls index (.string (T.heap.size + 1)))).heap[a0]? = T.heap[a0]? := by
        intro a0 h0
        show (withString T Zs.cB Zs.cS kS' Zs.fv Zs.fc units).heap[a0]? = _
        rw [withString_eq]
        show ((T.heap.push _).push _)[a0]? = _
        rw [Array.getElem?_push, if_neg (by rw [Array.size_push]; omega), Array.getElem?_push, if_neg (by omega)]
      have hsz : (withString T Zs.cB Zs.cS kS' Zs.fv Zs.fc units).heap.size = T.heap.size + 2 := by
        rw [withString_eq]
        show ((T.heap.push _).push _).size = _
        simp [Array.size_push]
      have hone : T.Interned1 ((withString T Zs.cB Zs.cS kS' Zs.fv Zs.fc units).setVm (({ T.vm with interned := T.vm.interned.push (units, T.heap.size + 1) } : Vm).noted g.method.cls index (.string (T.heap.size + 1)))) :=
        ⟨by show T.heap.size ≤ (withString T Zs.cB Zs.cS kS' Zs.fv Zs.fc units).heap.size; omega, Or.inr ⟨units, T.heap.size + 1, rfl, by omega, by show T.heap.size + 1 < (withString T Zs.cB Zs.cS kS' Zs.fv Zs.fc units).heap.size; omega⟩⟩
      have hcb : ((withString T Zs.cB Zs.cS kS' Zs.fv Zs.fc units).setVm (({ T.vm with interned := T.vm.interned.push (units, T.heap.size + 1) } : Vm).noted g.method.cls index (.string (T.heap.size + 1)))).heap[T.heap.size]? = some (bytesOf Zs.cB units) := by
        show (withString T Zs.cB Zs.cS kS' Zs.fv Zs.fc units).heap[T.heap.size]? = _
        rw [withString_eq]
        show ((T.heap.push _).push _)[T.heap.size]? = _
        rw [Array.getElem?_push, if_neg (by rw [Array.size_push]; omega), Array.getElem?_push, if_pos rfl]
      have hcs : ((withString T Zs.cB Zs.cS kS' Zs.fv Zs.fc units).setVm (({ T.vm with interned := T.vm.interned.push (units, T.heap.size + 1) } : Vm).noted g.method.cls index (.string (T.heap.size + 1)))).heap[T.heap.size + 1]? = some (stringAt Zs.cS kS' Zs.fv Zs.fc units T.heap.size) := by
        show (withString T Zs.cB Zs.cS kS' Zs.fv Zs.fc units).heap[T.heap.size + 1]? = _
        rw [withString_eq]
        show ((T.heap.push _).push _)[T.heap.size + 1]? = _
        rw [Array.getElem?_push, if_pos (by rw [Array.size_push])]
      have b1 : (bytesOf Zs.cB units).slots.size = (stringBytes units).size := by
        rw [(Cell.writeAll_facts _ _).2.2]; simp [bytes0]
      have b2 : (stringAt Zs.cS kS' Zs.fv Zs.fc units T.heap.size).slots.size = 4 := by simp [string0, Cell.setSlot, htyS, hn4]
      refine ⟨T.heap.size + 1, (withString T Zs.cB Zs.cS kS' Zs.fv Zs.fc units).setVm (({ T.vm with interned := T.vm.interned.push (units, T.heap.size + 1) } : Vm).noted g.method.cls index (.string (T.heap.size + 1))), (X2.mono (by omega) (by rw [b1, b2]; omega)).retabled hW, ⟨hW, State.Booked.step (X.warmed.no_new_pair _) X.same.2.1 hone⟩, ⟨_, Vm.classes_note_self (vm := { T.vm with interned := T.vm.interned.push (units, T.heap.size + 1) }) index (.string (T.heap.size + 1)) hk', Class.resolved_note_self (.string (T.heap.size + 1)) hopen⟩, hkeep, ((State.Warmed39.refl T).interns units (T.heap.size + 1)).notedString hk' (Or.inl hopen) r2 r3 r4 hpush, Or.inr ⟨units, hdec, rfl, hf, fun hl => made_sl hS LZs hn4 htyS hW.alike hcb hcs hl (by omega) 0⟩, fun target hrest => ?_⟩
      refine Steps.instr (c := _) (by simpa using X.here) ?_
      simp [jvm, wpRun, exec, X.here.top, hexec, hdg]
      refine ldc_w.wp_string_new (e := e) (s := T) (f := g) X.here.top hk' hcf' hc hu hopen hf LZ'.found LZ'.cls LZ'.initialized LZ'.ordinary LZ'.foundB LZ'.clsB LZ'.kindB LZ'.value LZ'.coder ?_ ?_ (X.cellsAbove hRcells) ?_
        (stringBytes_fit LZ'.clsB LZ'.kindB units) LZ'.valueSlot LZ'.coderSlot (by rw [hfs]; exact hfitv _) (by rw [hfs]; exact hfitc _) (fun d' acts' => ?_)
      · rw [Launch.admits_arrayLengthLimit X.admits]; omega
      · rw [Launch.admits_maxHeapBytes X.admits]; simp only [componentBytes]; omega
      · have := X.slotsAbove hRslots
        show T.slotsUsed + (stringBytes units).size + kS'.instanceTypes.size ≤ _
        rw [htyS, hn4]; omega
      · intro acts''
        have hs' : (withString T Zs.cB Zs.cS kS' Zs.fv Zs.fc units).topJava?.isSome := by simpa [withString] using X.here.top
        have hs'' : ((withString T Zs.cB Zs.cS kS' Zs.fv Zs.fc units).setVm (({ T.vm with interned := T.vm.interned.push (units, T.heap.size + 1) } : Vm).noted g.method.cls index (.string (T.heap.size + 1)))).topJava?.isSome := by simpa using hs'
        simp [jvm, afterInstr, hs', hs'']
        rw [State.modifyTopJava_setTop]
        exact hrest
  ·                                             
    refine ⟨a, T, (X.mono (by omega) (by omega)).retabled X.warmed.wide, X.warmed.since _, ⟨k', hk', hr'⟩, fun _ _ => rfl, State.Warmed39.refl T, Or.inl rfl, fun target hrest => ?_⟩
    jvm_step X.here [hexec, hdg, ldc_w.wp_string (e := e) (s := T) (f := g) X.here.top hk' hcf' hc hr']
    exact hrest
end ldcColdNS
end Jvm.Stand
namespace Jvm.RoadKit
open Sem ClassFile Op Lib Bundle Jvm.Stand Jvm.Free Jvm.LawKit Jvm.Free.SB Jvm.Free.SBG
section ldcOHS
variable {p : Program} {l : Launch} {e : Env} {R : Room} {s : State} {m : MethodId} {args : Array Value} {below : List Frame} {meth : Method} {c : Code} {T : State} {locs : List Loc} {cells slots : Nat} {Z : State} {a0 : Array Value} {EL : List (String × Nat)} {h : Heap} {vm0 : Vm} {own text : String} {index : Nat}
set_option maxHeartbeats 4000000 in
theorem ldcWOH (X : Stand p l e R (s.setVm vm0) m args below meth c T locs cells slots) (hx : p.tables.exec = Jvm.exec) (hZ : Z.Warmed39 vm0) (hown : vm0.findClass own = some m.cls) (w : (Cond.stringLink own index text).before a0 Z = true) (wS : ∀ a ∈ Bundle.stringAtoms, a.before a0 Z = true)
    (eT : T.heap = h) {k0 : Nat} (hS : s.Since vm0 k0) (hk : k0 ≤ h.size) (hEL : EW Z a0 EL) (H : CHv Z EL vm0 h)
    {g : JFrame} (hg : g.method = m) (hd : decode c.code g.pc = .ok (.ldc_w index, 3)) {n : Nat} (hn : 4 * text.toList.length ≤ n) (hbig : n ≤ 536870912) (hc : cells + 2 ≤ R.cells) (hl' : slots + (n + 4) ≤ R.slots) :
    ∃ (a : Addr) (T' : State) (h' : Heap) (k1 : Nat), Stand p l e R (s.setVm T'.vm) m args below meth c T' locs (cells + 2) (slots + (n + 4)) ∧ T'.heap = h' ∧ Ext h h' ∧ s.Since T'.vm k1 ∧ k1 ≤ h'.size ∧ Z.Warmed39 (s.setVm T'.vm).vm ∧ (s.setVm T'.vm).vm.findClass own = some m.cls ∧ CHr Z EL vm0 h T'.vm h' ∧ Lit (s.setVm T'.vm) own index a ∧
      ∀ target, Steps p.tables e below (T'.setTop { g with pc := g.pc + 3, stack := .ref a :: g.stack }) target → Steps p.tables e below (T.setTop g) target := by
  obtain ⟨a, T', X', hS', ⟨kk, hkk, hrr⟩, hb, hTW, hint, st⟩ := X.ldcWColdN hx (own := own) hown (mvS hZ w) (fun d hd => by
    have q := wS d hd
    simp only [Bundle.stringAtoms, List.mem_cons, List.not_mem_nil, or_false] at hd
    rcases hd with rfl | rfl | rfl | rfl | rfl | rfl | rfl
    · exact mv (s := s.setVm vm0) hZ q
    · exact mv (s := s.setVm vm0) hZ q
    · exact mvA (s := s.setVm vm0) hZ q
    · exact mv (s := s.setVm vm0) hZ q
    · exact mv (s := s.setVm vm0) hZ q
    · exact mv (s := s.setVm vm0) hZ q
    · exact mv (s := s.setVm vm0) hZ q) hg hd hn hbig hc hl'
  subst eT
  have E := ext_of hb
  have hW : Z.Warmed39 T'.vm := State.Warmed39.trans (t := s.setVm vm0) hZ hS'.1
  have A := CHv.at X hZ hEL H
  have hZT : Z.Warmed39 T.vm := wtrans (s := s.setVm vm0) hZ X.warmed
  have B := CHv.later (vm := T.vm) (vm1 := T'.vm) hZT (show (Wst Z T.vm T.heap).Warmed39 T'.vm from hTW) hEL E (hint.imp id fun ⟨us, _, e1, e2, e3⟩ => ⟨us, a, e1, e2, fun hl => by
    obtain ⟨q, cS, hq, r1, r2, r3, r4, r5⟩ := e3 hl
    have F : SlB T' q us := ⟨cS, r1, r2, r3, r4⟩
    refine ⟨q, hq, F.carry (V := Wst Z T'.vm T'.heap) (Vm.Alike.refl _) F.ha F.hd, ?_⟩
    rcases r5 with ⟨z, -⟩ | z
    · exact absurd z (Nat.not_lt_zero _)
    · exact z⟩) A.1
  have hf : T'.vm.findClass own = some m.cls := by rw [hS'.1.alike.findClass]; exact hown
  exact ⟨a, T', _, _, X', rfl, E, hS.trans hS' (Nat.le_trans hk E.1), Nat.le_refl _, hW, hf, A.trans ⟨B.1, E.1, B.2⟩, by simp [Lit, State.resolvedAt?, hf, hkk, hrr], st⟩
end ldcOHS
end Jvm.RoadKit
namespace Jvm.RoadKit
open Sem ClassFile Op Lib Bundle Jvm.Stand Jvm.Free Jvm.LawKit Jvm.Free.SB Jvm.Free.SBG
section ldcCHS
variable {p : Program} {l : Launch} {e : Env} {R : Room} {s : State} {m : MethodId} {args : Array Value} {below : List Frame} {meth : Method} {c : Code} {T : State} {locs : List Loc} {cells slots : Nat} {Z : State} {a0 : Array Value} {EL : List (String × Nat)} {h : Heap} {vm0 : Vm} {own text : String} {index : Nat}
set_option maxHeartbeats 4000000 in
theorem ldcWCH (X : Stand p l e R (s.setVm vm0) m args below meth c T locs cells slots) (hx : p.tables.exec = Jvm.exec) (hZ : Z.Warmed39 vm0) (hown : vm0.findClass own = some m.cls) (w : (Cond.stringLink own index text).before a0 Z = true) (wS : ∀ a ∈ Bundle.stringAtoms, a.before a0 Z = true)
    (eT : T.heap = h) {k0 : Nat} (hS : s.Since vm0 k0) (hk : k0 ≤ h.size) (hEL : EW Z a0 EL) (hmem : (own, index) ∈ EL) (H : CHv Z EL vm0 h)
    {vs : List Value} {z : Int32} (ht : (∀ c ∈ text.toList, c.toNat < 256) ∧ text.toList.map (fun c => Value.int (Jvm.Lit.byteI c.toNat.toUInt16)) = vs) (hz : ¬ z < 0) (hl : z.toNatClampNeg = vs.length)
    {g : JFrame} (hg : g.method = m) (hd : decode c.code g.pc = .ok (.ldc_w index, 3)) {n : Nat} (hn : 4 * text.toList.length ≤ n) (hbig : n ≤ 536870912) (hc : cells + 2 ≤ R.cells) (hl' : slots + (n + 4) ≤ R.slots) :
    ∃ (a : Addr) (T' : State) (h' : Heap) (k1 : Nat) (b : Addr) (k : ClassId), Stand p l e R (s.setVm T'.vm) m args below meth c T' locs (cells + 2) (slots + (n + 4)) ∧ T'.heap = h' ∧ Ext h h' ∧ s.Since T'.vm k1 ∧ k1 ≤ h'.size ∧ Z.Warmed39 (s.setVm T'.vm).vm ∧ (s.setVm T'.vm).vm.findClass own = some m.cls ∧
      Exa Z h' a "java/lang/String" ∧ Fld Z h' a "java/lang/String" "coder" "B" (.int 0) ∧ Fld Z h' a "java/lang/String" "value" "[B" (.ref b) ∧ Arv Z h' b k .byte z vs (.int 0) ∧ a < h'.size ∧ b < h'.size ∧ CHr Z EL vm0 h T'.vm h' ∧ Lit (s.setVm T'.vm) own index a ∧ (∀ x, Safe Z EL T'.vm h' x → x ≠ a ∧ x ≠ b) ∧
      ∀ target, Steps p.tables e below (T'.setTop { g with pc := g.pc + 3, stack := .ref a :: g.stack }) target → Steps p.tables e below (T.setTop g) target := by
  obtain ⟨a, T', h', k1', X', rfl, E, hS2, hk2, hW, hf, hC, hL, st⟩ := ldcWOH X hx hZ hown w wS eT hS hk hEL H hg hd hn hbig hc hl'
  have hW : Z.Warmed39 T'.vm := hW
  have hal : Z.vm.Alike T'.vm := hW.alike
  have w2 : (Cond.stringLink own index text).before a0 (Wst Z T'.vm T'.heap) = true := mvS (s := { Z with heap := T'.heap }) hW w
  obtain ⟨k0', cf, i, units, hkx, hcf, hp, hu, -, htext, -⟩ := Cond.stringLink_spec (s := Wst Z T'.vm T'.heap) hf w2
  have hres : k0'.resolved[index]? = some (some (.string a)) := by
    have q : (s.setVm T'.vm).resolvedAt? own index = some (.string a) := hL
    have hf' : T'.vm.findClass own = some m.cls := hf
    have hk' : T'.vm.classes[m.cls]? = some k0' := hkx
    simp [State.resolvedAt?, hf', hk'] at q
    cases hr : k0'.resolved[index]? with
    | none => rw [hr] at q; cases q
    | some o => rw [hr] at q; cases o with
      | none => cases q
      | some r => simpa using q
  have hB0 : Booksv T'.vm own index units a := ⟨m.cls, k0', cf, i, hf, hkx, hcf, hp, hu, Or.inl hres⟩
  have hlat := Jvm.ClassFile.lat_of_text htext ht.1
  obtain ⟨q, hqa, F⟩ := SlB.of (hC.1 _ hmem units a hB0)
  have hne : ∀ x, Safe Z EL T'.vm T'.heap x → x ≠ q.sa ∧ x ≠ q.sd := fun x S => ⟨fun e1 => S ⟨_, hmem, units, a, hB0, q, hqa, F, Or.inl e1⟩, fun e1 => S ⟨_, hmem, units, a, hB0, q, hqa, F, Or.inr e1⟩⟩
  obtain ⟨cS, ⟨⟨s1, s2, s3, ⟨cv, kv, iv, s4, s4'⟩, ⟨cc, kc, ic, s5, s5'⟩, s6, s7, s8, s9, s10, s11, s12, s13, s14, s15, s16⟩, hfS, hcS⟩, ⟨kS, k1, k2, k3⟩, hB, hbyt⟩ := F
  subst hqa
  have hfS : T'.vm.findClass "java/lang/String" = some cS := hfS
  have hB : T'.vm.findClass "[B" = some q.SA.cls := hB
  have k1 : T'.vm.classes[cS]? = some kS := k1
  obtain ⟨kv', z4⟩ := ff_back (U := Wst Z T'.vm T'.heap) hal s4
  obtain ⟨kc', z5⟩ := ff_back (U := Wst Z T'.vm T'.heap) hal s5
  have hfZ : Z.vm.findClass "java/lang/String" = some q.sC.cls := by rw [← hal.findClass, hcS]; exact hfS
  obtain ⟨kz, hkz, -⟩ := Vm.findClass_spec hfZ
  obtain ⟨kz', hkz', ekz⟩ := hal.2.2 _ _ hkz
  have ekS : kz' = kS := Option.some.inj (hkz'.symm.trans (hcS ▸ k1))
  have hBZ : Z.vm.findClass "[B" = some q.SA.cls := by rw [← hal.findClass]; exact hB
  obtain ⟨kb, hkb, -⟩ := Vm.findClass_spec hBZ
  obtain ⟨kb', hkb', ekb⟩ := hal.2.2 _ _ hkb
  obtain ⟨hst, k9, hk9, comp, hkind9⟩ := s11
  have hk9 : T'.vm.classes[q.SA.cls]? = some k9 := hk9
  have ek9 : k9 = kb' := Option.some.inj (hk9.symm.trans hkb')
  have hAZ : Z.isArrayOf q.SA .byte := ⟨hst, kb, hkb, comp, by rw [ek9, ekb] at hkind9; exact hkind9⟩
  have eu : vs = units.toList.map fun u => Value.int (Jvm.Lit.byteI u) := by rw [← ht.2, Jvm.ClassFile.units_of_text htext ht.1, List.map_map]; rfl
  have el : vs.length = units.size := by rw [eu]; simp
  have hsl : q.SA.slots = units.map fun u => Value.int (Jvm.Lit.byteI u) := by rw [hbyt, SBG.stringBytes_lat hlat]; rfl
  have hsz : q.SA.slots.size = units.size := by rw [hsl, Array.size_map]
  have H2 : Has q.SA vs (.int 0) := fun j hj => by
    have hj' : j < units.size := by omega
    rw [hsl, eu]; simp [hj']
  refine ⟨q.sa, T', _, _, q.sd, q.SA.cls, X', rfl, E, hS2, hk2, hW, hf,
    ⟨q.sC, kz, s1, hfZ, hkz, s3, fun ho => by rw [k3, ← ekS, ekz]⟩, ⟨q.sC, cc, kc', ic, q.fSC, s1, z5, s7, s2, s3, by rw [← hal.assignable]; exact s5', s9⟩, ⟨q.sC, cv, kv', iv, q.fSV, s1, z4, s6, s2, s3, by rw [← hal.assignable]; exact s4', s8⟩,
    ⟨q.SA, ⟨s10, hAZ, s12⟩, rfl, by rw [hsz, hl, el], hz, H2, fun j hj => ?_⟩, (Array.getElem?_eq_some_iff.mp s1).1, (Array.getElem?_eq_some_iff.mp s10).1, hC, hL, hne, st⟩
  have e1 := s16 j hj
  have e2 := H2 j hj
  rw [SBG.getD_of e2] at e1
  exact e1
end ldcCHS
end Jvm.RoadKit
/- laws to paste: Road.backV (cut by pick.py; bodies as the Statement names them) -/
namespace Jvm.Pilot.@@N@@
namespace StrChars
open Jvm Sem ClassFile Op Lib Jvm.Stand Jvm.Free.XT Jvm.Free.ALB Jvm.Free.JM Jvm.Free
open Jvm.Lib.Cold (StaticIs)
/-- a char array whose places are chars -/
def Ch (a : Addr) (A : Cell) (U : State) : Prop := Arr .char a A U ∧ Typed .char A
theorem Ch.mv {a : Addr} {A : Cell} {U U' : State} (h : Ch a A U) (hal : U.vm.Alike U'.vm) (hh : U'.heap = U.heap) : Ch a A U' := ⟨h.1.mv hal hh, h.2⟩
theorem Ch.keep {a : Addr} {A : Cell} {U U' : State} (h : Ch a A U) (hal : U.vm.Alike U'.vm) (hk : U'.heap[a]? = some A) : Ch a A U' := ⟨h.1.keep hal hk, h.2⟩
/-- what place i of a char[]'s cell holds -/
def cv (A : Cell) (i : Nat) : Int32 := match A.slots[i]? with | some (.int x) => x | _ => 0
theorem Ch.get {a : Addr} {A : Cell} {U : State} (h : Ch a A U) {i : Nat} (hi : i < A.slots.size) : A.slots[i]? = some (.int (cv A i)) := by
  have e := Array.getElem?_eq_getElem hi
  have f := h.2 i _ e
  unfold cv; rw [e]
  generalize A.slots[i] = v at f
  cases v <;> simp [fits] at f ⊢
/-- the byte that i2b leaves of a char -/
def lo8 (x : Int32) : Int32 := x.toInt8.toInt32
theorem fits_lo8 (y : Int32) : fits .byte (.int (lo8 y)) = true := by
  have h1 := y.toInt8.le_toInt
  have h2 := y.toInt8.toInt_lt
  simp only [lo8, fits, Bool.and_eq_true, decide_eq_true_eq, Int32.le_iff_toInt_le, Int8.toInt_toInt32, show (-128 : Int32).toInt = -128 from by decide, show (127 : Int32).toInt = 127 from by decide]
  omega
/-- A' is A but that each place j of lo .. hi - 1 holds f j -/
def Laid (A A' : Cell) (lo hi : Nat) (f : Nat → Value) : Prop := A'.cls = A.cls ∧ A'.vm = A.vm ∧ A'.slots.size = A.slots.size ∧ ∀ i, A'.slots[i]? = if lo ≤ i ∧ i < hi then some (f i) else A.slots[i]?
theorem Laid.zero (A : Cell) (lo : Nat) (f : Nat → Value) : Laid A A lo (lo + 0) f := ⟨rfl, rfl, rfl, fun i => by rw [if_neg (by omega)]⟩
theorem Laid.step {A Ak : Cell} {lo k : Nat} {f : Nat → Value} {v : Value} (h : Laid A Ak lo k f) (hlo : lo ≤ k) (hk : k < Ak.slots.size) (hv : v = f k) : Laid A (Ak.setSlot k v) lo (k + 1) f := by
  refine ⟨h.1, h.2.1, by simpa [Cell.setSlot] using h.2.2.1, fun i => ?_⟩
  by_cases e : k = i
  · subst e; rw [Cell.slots_setSlot_self v hk, if_pos (by omega), hv]
  · rw [Cell.slots_setSlot_ne v e, h.2.2.2 i]
    by_cases q : lo ≤ i ∧ i < k
    · rw [if_pos q, if_pos (by omega)]
    · rw [if_neg q, if_neg (by omega)]
def U16 : String := "java/lang/StringUTF16"
namespace Cmp5
def yN : MethodName := ⟨"java/lang/StringUTF16", "compress", "([CI[BII)I"⟩
abbrev yB : ByteArray := jdk_52_method_21_code
theorem d0 : decode yB 0 = .ok (.iconst 0, 1) := by decide +kernel
theorem d1 : decode yB 1 = .ok (.istore 5, 2) := by decide +kernel
theorem d3 : decode yB 3 = .ok (.iload 5, 2) := by decide +kernel
theorem d5 : decode yB 5 = .ok (.iload 4, 2) := by decide +kernel
theorem d7 : decode yB 7 = .ok (.if_icmp (.ge) 37, 3) := by decide +kernel
theorem d10 : decode yB 10 = .ok (.aload_n 0, 1) := by decide +kernel
theorem d11 : decode yB 11 = .ok (.iload_n 1, 1) := by decide +kernel
theorem d12 : decode yB 12 = .ok (.caload, 1) := by decide +kernel
theorem d13 : decode yB 13 = .ok (.istore 6, 2) := by decide +kernel
theorem d15 : decode yB 15 = .ok (.iload 6, 2) := by decide +kernel
theorem d17 : decode yB 17 = .ok (.sipush 255, 3) := by decide +kernel
theorem d20 : decode yB 20 = .ok (.if_icmp (.le) 6, 3) := by decide +kernel
theorem d26 : decode yB 26 = .ok (.aload_n 2, 1) := by decide +kernel
theorem d27 : decode yB 27 = .ok (.iload_n 3, 1) := by decide +kernel
theorem d28 : decode yB 28 = .ok (.iload 6, 2) := by decide +kernel
theorem d30 : decode yB 30 = .ok (.i2b, 1) := by decide +kernel
theorem d31 : decode yB 31 = .ok (.bastore, 1) := by decide +kernel
theorem d32 : decode yB 32 = .ok (.iinc 1 1, 3) := by decide +kernel
theorem d35 : decode yB 35 = .ok (.iinc 3 1, 3) := by decide +kernel
theorem d38 : decode yB 38 = .ok (.iinc 5 1, 3) := by decide +kernel
theorem d41 : decode yB 41 = .ok (.goto (-38), 3) := by decide +kernel
theorem d44 : decode yB 44 = .ok (.iload 4, 2) := by decide +kernel
theorem d46 : decode yB 46 = .ok (.ireturn, 1) := by decide +kernel
def site : List Cond := []
def tab : Cond := tabOf yN yB 7 (some .int) site
def P (b : Addr) (A : Cell) (d : Addr) (B : Cell) (o q len : Nat) (args : Array Value) (s : State) : Prop := args = #[.ref b, .int (Int32.ofNat o), .ref d, .int (Int32.ofNat q), .int (Int32.ofNat len)] ∧ Ch b A s ∧ Arr .byte d B s ∧ b ≠ d ∧ o + len ≤ A.slots.size ∧ q + len ≤ B.slots.size ∧ ∀ i, i < len → ¬ 255 < cv A (o + i)
def E (b : Addr) (A : Cell) (d : Addr) (B : Cell) (o q len : Nat) (r : Option Value) (s u : State) : Prop := r = some (.int (Int32.ofNat len)) ∧ ∃ B', Put d B' s u ∧ Laid B B' q (q + len) (fun j => Value.int (lo8 (cv A (o + (j - q)))))
/-- no char of the range above 255: len; the places written hold each char's low byte -/
theorem law (l : Launch) (b : Addr) (A : Cell) (d : Addr) (B : Cell) (o q len : Nat) : Law l yN 5 5 0 0 yB 7 (some .int) site (P b A d B o q len) (E b A d B o q len) (copyLocs d q len) 0 0 := by
  refine Law.of_walk (plainFor_of_name (by decide +kernel)) (by decide +kernel) (by decide +kernel) (by decide) (fun _ _ h => by rw [h.1]; rfl) (fun _ U U' hal hh h => ⟨h.1, h.2.1.mv hal hh, h.2.2.1.mv hal hh, h.2.2.2⟩) (fun r U U' V V' h1 hal h2 h => ⟨h.1, h.2.elim fun B' q => ⟨B', q.1.mv h1 h2, q.2⟩⟩) ?_
  intro p e s m args below meth c s₁ X0 hexec hbytes hml hret hlk hnm hown hh0 W hP
  obtain ⟨rfl, hA, hB, hne, l1, l2, hp⟩ := hP
  have c1 : Steps p.tables e below (s₁.setTop (entryFrame m #[.ref b, .int (Int32.ofNat o), .ref d, .int (Int32.ofNat q), .int (Int32.ofNat len)] 7)) (s₁.setTop (mkF m 0 #[.val (.ref b), .val (.int (Int32.ofNat o)), .val (.ref d), .val (.int (Int32.ofNat q)), .val (.int (Int32.ofNat len)), .unset, .unset] [])) := entry rfl
  have hA0 := hA.1.mv X0.warmed.alike hh0
  have hB0 := hB.mv X0.warmed.alike hh0
  have a31 := hA.1.2.2.2
  have c2 : Steps p.tables e below (s₁.setTop (entryFrame m #[.ref b, .int (Int32.ofNat o), .ref d, .int (Int32.ofNat q), .int (Int32.ofNat len)] 7)) (s₁.setTop (mkF m 3 #[.val (.ref b), .val (.int (Int32.ofNat o)), .val (.ref d), .val (.int (Int32.ofNat q)), .val (.int (Int32.ofNat len)), .val (.int 0), .unset] [])) := c1.trans (by
    refine iconstV X0.here hexec rfl 0 (hb hbytes d0) (by decide) ?_
    refine XS.istore X0.here hexec rfl (hb hbytes d1) rfl rfl ?_
    exact Steps.refl _)
  have loop : ∀ (r i : Nat), i + r = len → ∀ (z : Slot), (z = .unset ∨ ∃ w, z = .val w ∧ w.category = 1) → ∀ (Tl : State) (Bk : Cell), Stand p l e { frames := 0, locals := 0, cells := 0, slots := 0 } s m #[.ref b, .int (Int32.ofNat o), .ref d, .int (Int32.ofNat q), .int (Int32.ofNat len)] below meth c Tl ([] ++ copyLocs d q i) 0 0 → Put d Bk s₁ Tl → Laid B Bk q (q + i) (fun j => Value.int (lo8 (cv A (o + (j - q))))) →
      Steps p.tables e below (s₁.setTop (entryFrame m #[.ref b, .int (Int32.ofNat o), .ref d, .int (Int32.ofNat q), .int (Int32.ofNat len)] 7)) (Tl.setTop (mkF m 3 #[.val (.ref b), .val (.int (Int32.ofNat (o + i))), .val (.ref d), .val (.int (Int32.ofNat (q + i))), .val (.int (Int32.ofNat len)), .val (.int (Int32.ofNat i)), z] [])) → ∃ (T' : State) (B' : Cell) (z' : Slot), Stand p l e { frames := 0, locals := 0, cells := 0, slots := 0 } s m #[.ref b, .int (Int32.ofNat o), .ref d, .int (Int32.ofNat q), .int (Int32.ofNat len)] below meth c T' ([] ++ copyLocs d q len) 0 0 ∧ Put d B' s₁ T' ∧ Laid B B' q (q + len) (fun j => Value.int (lo8 (cv A (o + (j - q))))) ∧
      Steps p.tables e below (s₁.setTop (entryFrame m #[.ref b, .int (Int32.ofNat o), .ref d, .int (Int32.ofNat q), .int (Int32.ofNat len)] 7)) (T'.setTop (mkF m 3 #[.val (.ref b), .val (.int (Int32.ofNat (o + len))), .val (.ref d), .val (.int (Int32.ofNat (q + len))), .val (.int (Int32.ofNat len)), .val (.int (Int32.ofNat len)), z'] [])) := by
    intro r
    induction r with
    | zero =>
      intro i hi z hz Tl Bk Xl pl fl cl
      have hil : i = len := by omega
      rw [hil] at Xl fl cl
      exact ⟨Tl, Bk, z, Xl, pl, fl, cl⟩
    | succ r ih =>
      intro i hi z hz Tl Bk Xl pl fl cl
      have all := X0.warmed.alike.symm.trans Xl.warmed.alike
      have hAl := hA0.keep all (pl.other hne hA0.1)
      have hBk := hB0.like all pl.1 fl.1 fl.2.1 fl.2.2.1
      have hlt : q + i < Bk.slots.size := by rw [fl.2.2.1]; omega
      have c3 : Steps p.tables e below (s₁.setTop (entryFrame m #[.ref b, .int (Int32.ofNat o), .ref d, .int (Int32.ofNat q), .int (Int32.ofNat len)] 7)) (Tl.setTop (mkF m 12 #[.val (.ref b), .val (.int (Int32.ofNat (o + i))), .val (.ref d), .val (.int (Int32.ofNat (q + i))), .val (.int (Int32.ofNat len)), .val (.int (Int32.ofNat i)), z] [.int (Int32.ofNat (o + i)), .ref b])) := cl.trans (by
        refine XS.iload Xl.here hexec rfl (hb hbytes d3) rfl ?_
        refine XS.iload Xl.here hexec rfl (hb hbytes d5) rfl ?_
        refine XS.icmpNo Xl.here hexec rfl (hb hbytes d7) rfl (ii_ge_f (lt32 (by omega) (by omega))) ?_
        refine XS.aloadN Xl.here hexec rfl (hb hbytes d10) rfl rfl ?_
        refine XS.iloadN Xl.here hexec rfl (hb hbytes d11) rfl ?_
        exact Steps.refl _)
      have c4 : Steps p.tables e below (s₁.setTop (entryFrame m #[.ref b, .int (Int32.ofNat o), .ref d, .int (Int32.ofNat q), .int (Int32.ofNat len)] 7)) (Tl.setTop (mkF m 13 #[.val (.ref b), .val (.int (Int32.ofNat (o + i))), .val (.ref d), .val (.int (Int32.ofNat (q + i))), .val (.int (Int32.ofNat len)), .val (.int (Int32.ofNat i)), z] [.int (cv A (o + i))])) := c3.trans (by
        refine Xl.aget hexec hAl rfl (hA.get (i := o + i) (by omega)) rfl rfl (hb hbytes d12) ?_
        exact Steps.refl _)
      have c5 : Steps p.tables e below (s₁.setTop (entryFrame m #[.ref b, .int (Int32.ofNat o), .ref d, .int (Int32.ofNat q), .int (Int32.ofNat len)] 7)) (Tl.setTop (mkF m 15 #[.val (.ref b), .val (.int (Int32.ofNat (o + i))), .val (.ref d), .val (.int (Int32.ofNat (q + i))), .val (.int (Int32.ofNat len)), .val (.int (Int32.ofNat i)), .val (.int (cv A (o + i)))] [])) := c4.trans (by
        refine XS.istoreS Xl.here hexec rfl (hb hbytes d13) rfl rfl hz ?_
        exact Steps.refl _)
      have c6 : Steps p.tables e below (s₁.setTop (entryFrame m #[.ref b, .int (Int32.ofNat o), .ref d, .int (Int32.ofNat q), .int (Int32.ofNat len)] 7)) (Tl.setTop (mkF m 31 #[.val (.ref b), .val (.int (Int32.ofNat (o + i))), .val (.ref d), .val (.int (Int32.ofNat (q + i))), .val (.int (Int32.ofNat len)), .val (.int (Int32.ofNat i)), .val (.int (cv A (o + i)))] [.int (lo8 (cv A (o + i))), .int (Int32.ofNat (q + i)), .ref d])) := c5.trans (by
        refine XS.iload Xl.here hexec rfl (hb hbytes d15) rfl ?_
        refine sipushV Xl.here hexec rfl 255 (hb hbytes d17) (by decide) ?_
        refine XS.icmpYes Xl.here hexec rfl (pc0 := 20) rfl (hb hbytes d20) rfl (ii_le_t (hp i (by omega))) (by decide) rfl ?_
        refine XS.aloadN Xl.here hexec rfl (hb hbytes d26) rfl rfl ?_
        refine XS.iloadN Xl.here hexec rfl (hb hbytes d27) rfl ?_
        refine XS.iload Xl.here hexec rfl (hb hbytes d28) rfl ?_
        refine i2b Xl.here hexec rfl (hb hbytes d30) rfl ?_
        exact Steps.refl _)
      obtain ⟨T7, X7, p7, st7⟩ := Xl.aput hexec hBk rfl hlt rfl (fits_lo8 (cv A (o + i))) (g := (mkF m 31 #[.val (.ref b), .val (.int (Int32.ofNat (o + i))), .val (.ref d), .val (.int (Int32.ofNat (q + i))), .val (.int (Int32.ofNat len)), .val (.int (Int32.ofNat i)), .val (.int (cv A (o + i)))] [.int (lo8 (cv A (o + i))), .int (Int32.ofNat (q + i)), .ref d])) rfl (rest := []) rfl (hb hbytes d31)
      have c8 : Steps p.tables e below (s₁.setTop (entryFrame m #[.ref b, .int (Int32.ofNat o), .ref d, .int (Int32.ofNat q), .int (Int32.ofNat len)] 7)) (T7.setTop (mkF m 32 #[.val (.ref b), .val (.int (Int32.ofNat (o + i))), .val (.ref d), .val (.int (Int32.ofNat (q + i))), .val (.int (Int32.ofNat len)), .val (.int (Int32.ofNat i)), .val (.int (cv A (o + i)))] [])) := c6.trans (st7 _ (Steps.refl _))
      have c9 : Steps p.tables e below (s₁.setTop (entryFrame m #[.ref b, .int (Int32.ofNat o), .ref d, .int (Int32.ofNat q), .int (Int32.ofNat len)] 7)) (T7.setTop (mkF m 3 #[.val (.ref b), .val (.int (Int32.ofNat (o + i) + 1)), .val (.ref d), .val (.int (Int32.ofNat (q + i) + 1)), .val (.int (Int32.ofNat len)), .val (.int (Int32.ofNat i + 1)), .val (.int (cv A (o + i)))] [])) := c8.trans (by
        refine iincV X7.here hexec rfl 1 (hb hbytes d32) (by decide) rfl rfl ?_
        refine iincV X7.here hexec rfl 1 (hb hbytes d35) (by decide) rfl rfl ?_
        refine iincV X7.here hexec rfl 1 (hb hbytes d38) (by decide) rfl rfl ?_
        refine XS.goto X7.here hexec rfl (pc0 := 41) rfl (hb hbytes d41) (by decide) rfl ?_
        exact Steps.refl _)
      have c10 : Steps p.tables e below (s₁.setTop (entryFrame m #[.ref b, .int (Int32.ofNat o), .ref d, .int (Int32.ofNat q), .int (Int32.ofNat len)] 7)) (T7.setTop (mkF m 3 #[.val (.ref b), .val (.int (Int32.ofNat (o + (i + 1)))), .val (.ref d), .val (.int (Int32.ofNat (q + (i + 1)))), .val (.int (Int32.ofNat len)), .val (.int (Int32.ofNat (i + 1))), .val (.int (cv A (o + i)))] [])) := by
        have := c9
        rw [succ32, succ32, succ32] at this
        exact this
      exact ih (i + 1) (by omega) _ (Or.inr ⟨_, rfl, rfl⟩) T7 _ (by rw [copyLocs_step, ← List.append_assoc]; exact X7) (pl.trans p7) (fl.step (by omega) hlt (by simp)) c10
  obtain ⟨T9, B9, z9, X9, p9, f9, g9⟩ := loop len 0 (by omega) .unset (Or.inl rfl) s₁ B (by simpa [copyLocs] using X0) ⟨hB0.1, fun _ _ => rfl, rfl⟩ (Laid.zero _ _ _) c2
  have c11 : Steps p.tables e below (s₁.setTop (entryFrame m #[.ref b, .int (Int32.ofNat o), .ref d, .int (Int32.ofNat q), .int (Int32.ofNat len)] 7)) (T9.setTop (mkF m 46 #[.val (.ref b), .val (.int (Int32.ofNat (o + len))), .val (.ref d), .val (.int (Int32.ofNat (q + len))), .val (.int (Int32.ofNat len)), .val (.int (Int32.ofNat len)), z9] [.int (Int32.ofNat len)])) := g9.trans (by
    refine XS.iload X9.here hexec rfl (hb hbytes d3) rfl ?_
    refine XS.iload X9.here hexec rfl (hb hbytes d5) rfl ?_
    refine XS.icmpYes X9.here hexec rfl (pc0 := 7) rfl (hb hbytes d7) rfl (ii_ge_t (nlt32 (by omega) (Nat.le_refl _))) (by decide) rfl ?_
    refine XS.iload X9.here hexec rfl (hb hbytes d44) rfl ?_
    exact Steps.refl _)
  exact ⟨T9, some (.int (Int32.ofNat len)), _, _, _, X9, by simp, rfl, rfl, (fun h => by cases h), ⟨rfl, B9, p9.from hh0, f9⟩, fun fs hl => c11.trans (X9.ireturnOut hexec hret rfl (Or.inl rfl) (hb hbytes d46) hl)⟩
end Cmp5
namespace Cmp3
def yN : MethodName := ⟨"java/lang/StringUTF16", "compress", "([CII)[B"⟩
abbrev yB : ByteArray := jdk_52_method_16_code
theorem d0 : decode yB 0 = .ok (.iload_n 2, 1) := by decide +kernel
theorem d1 : decode yB 1 = .ok (.newarray .byte, 2) := by decide +kernel
theorem d3 : decode yB 3 = .ok (.astore_n 3, 1) := by decide +kernel
theorem d4 : decode yB 4 = .ok (.aload_n 0, 1) := by decide +kernel
theorem d5 : decode yB 5 = .ok (.iload_n 1, 1) := by decide +kernel
theorem d6 : decode yB 6 = .ok (.aload_n 3, 1) := by decide +kernel
theorem d7 : decode yB 7 = .ok (.iconst 0, 1) := by decide +kernel
theorem d8 : decode yB 8 = .ok (.iload_n 2, 1) := by decide +kernel
theorem d9 : decode yB 9 = .ok (.invokestatic 115, 3) := by decide +kernel
theorem d12 : decode yB 12 = .ok (.istore 4, 2) := by decide +kernel
theorem d14 : decode yB 14 = .ok (.iload 4, 2) := by decide +kernel
theorem d16 : decode yB 16 = .ok (.iload_n 2, 1) := by decide +kernel
theorem d17 : decode yB 17 = .ok (.if_icmp (.eq) 40, 3) := by decide +kernel
theorem d57 : decode yB 57 = .ok (.aload_n 3, 1) := by decide +kernel
theorem d58 : decode yB 58 = .ok (.areturn, 1) := by decide +kernel
def site : List Cond := [.arrayClass .byte, Cmp5.tab] ++ staticW U16 115 Cmp5.yN
def tab : Cond := tabOf yN yB 6 (some (.array .byte)) site
def P (b : Addr) (A : Cell) (o len : Nat) (args : Array Value) (s : State) : Prop := args = #[.ref b, .int (Int32.ofNat o), .int (Int32.ofNat len)] ∧ Ch b A s ∧ o + len ≤ A.slots.size ∧ len ≤ 536870912 ∧ ∀ i, i < len → ¬ 255 < cv A (o + i)
def E (b : Addr) (A : Cell) (o len : Nat) (r : Option Value) (s u : State) : Prop := NewArr .byte "[B" len (fun j => .int (lo8 (cv A (o + j)))) r s u ∧ u.heap.size = s.heap.size + 1
/-- no char of the range above 255: a new byte[] of their low bytes -/
theorem law (l : Launch) (b : Addr) (A : Cell) (o len : Nat) : Law l yN 3 3 1 18 yB 6 (some (.array .byte)) site (P b A o len) (E b A o len) [] 1 len := by
  refine Law.of_walk (plainFor_of_name (by decide +kernel)) (by decide +kernel) (by decide +kernel) (by decide) (fun _ _ h => by rw [h.1]; rfl) (fun _ U U' hal hh h => ⟨h.1, h.2.1.mv hal hh, h.2.2⟩) (fun r U U' V V' h1 hal h2 h => ⟨NewArr.mv r U U' V V' h1 hal h2 h.1, by rw [h1, h2]; exact h.2⟩) ?_
  intro p e s m args below meth c s₁ X0 hexec hbytes hml hret hlk hnm hown hh0 W hP
  obtain ⟨rfl, hA, l1, l2, hp⟩ := hP
  have a31 := hA.1.2.2.2
  have c1 : Steps p.tables e below (s₁.setTop (entryFrame m #[.ref b, .int (Int32.ofNat o), .int (Int32.ofNat len)] 6)) (s₁.setTop (mkF m 0 #[.val (.ref b), .val (.int (Int32.ofNat o)), .val (.int (Int32.ofNat len)), .unset, .unset, .unset] [])) := entry rfl
  have c2 : Steps p.tables e below (s₁.setTop (entryFrame m #[.ref b, .int (Int32.ofNat o), .int (Int32.ofNat len)] 6)) (s₁.setTop (mkF m 1 #[.val (.ref b), .val (.int (Int32.ofNat o)), .val (.int (Int32.ofNat len)), .unset, .unset, .unset] [.int (Int32.ofNat len)])) := c1.trans (by
    refine XS.iloadN X0.here hexec rfl (hb hbytes d0) rfl ?_
    exact Steps.refl _)
  obtain ⟨T3, B3, X3, ba3, bs3, bv3, bh3, bf3, st3⟩ := X0.anew hexec (atype := .byte) (wk W (.arrayClass .byte)) rfl (by show len * 1 ≤ _; omega) (by omega) (g := (mkF m 1 #[.val (.ref b), .val (.int (Int32.ofNat o)), .val (.int (Int32.ofNat len)), .unset, .unset, .unset] [.int (Int32.ofNat len)])) rfl (hb hbytes d1) (rest := []) rfl (Nat.le_refl _) (by show 0 + len ≤ len; omega)
  rw [hh0] at ba3 st3
  have kp3 : XT.Kept s T3 := (XT.Kept.of_eq hh0).push bh3
  have hA3 := hA.keep X3.warmed.alike (kp3 _ _ hA.1.1)
  have hne : b ≠ s.heap.size := hA.1.ne
  have c4 : Steps p.tables e below (s₁.setTop (entryFrame m #[.ref b, .int (Int32.ofNat o), .int (Int32.ofNat len)] 6)) (T3.setTop (mkF m 3 #[.val (.ref b), .val (.int (Int32.ofNat o)), .val (.int (Int32.ofNat len)), .unset, .unset, .unset] [.ref s.heap.size])) := c2.trans (st3 _ (Steps.refl _))
  have c5 : Steps p.tables e below (s₁.setTop (entryFrame m #[.ref b, .int (Int32.ofNat o), .int (Int32.ofNat len)] 6)) (T3.setTop (mkF m 9 #[.val (.ref b), .val (.int (Int32.ofNat o)), .val (.int (Int32.ofNat len)), .val (.ref s.heap.size), .unset, .unset] [.int (Int32.ofNat len), .int 0, .ref s.heap.size, .int (Int32.ofNat o), .ref b])) := c4.trans (by
    refine XS.astoreN X3.here hexec rfl (hb hbytes d3) rfl rfl rfl ?_
    refine XS.aloadN X3.here hexec rfl (hb hbytes d4) rfl rfl ?_
    refine XS.iloadN X3.here hexec rfl (hb hbytes d5) rfl ?_
    refine XS.aloadN X3.here hexec rfl (hb hbytes d6) rfl rfl ?_
    refine iconstV X3.here hexec rfl 0 (hb hbytes d7) (by decide) ?_
    refine XS.iloadN X3.here hexec rfl (hb hbytes d8) rfl ?_
    exact Steps.refl _)
  obtain ⟨v6, T6, X6, E6, g6⟩ := X3.callS hexec (Cmp5.law l b A s.heap.size B3 o 0 len) hown (wks W (staticW U16 115 Cmp5.yN)) (wk W Cmp5.tab) (W := 0) (Nat.le_of_ble_eq_true rfl) (Nat.le_of_ble_eq_true rfl) (Nat.le_refl _) (by show 0 + len + 0 ≤ len; omega) (g := (mkF m 9 #[.val (.ref b), .val (.int (Int32.ofNat o)), .val (.int (Int32.ofNat len)), .val (.ref s.heap.size), .unset, .unset] [.int (Int32.ofNat len), .int (Int32.ofNat 0), .ref s.heap.size, .int (Int32.ofNat o), .ref b])) rfl (by rw [hml]; rfl) c5 (argsL := [.ref b, .int (Int32.ofNat o), .ref s.heap.size, .int (Int32.ofNat 0), .int (Int32.ofNat len)]) (rest := []) rfl rfl (by show 2 * 0 + 0 ≤ _; decide) (hb hbytes d9) (⟨rfl, hA3, ba3, hne, l1, by rw [bs3]; simp, hp⟩)
  obtain ⟨rfl, B6, p6, f6⟩ := E6
  have c7 : Steps p.tables e below (s₁.setTop (entryFrame m #[.ref b, .int (Int32.ofNat o), .int (Int32.ofNat len)] 6)) (T6.setTop (mkF m 12 #[.val (.ref b), .val (.int (Int32.ofNat o)), .val (.int (Int32.ofNat len)), .val (.ref s.heap.size), .unset, .unset] [.int (Int32.ofNat len)])) := g6
  have c8 : Steps p.tables e below (s₁.setTop (entryFrame m #[.ref b, .int (Int32.ofNat o), .int (Int32.ofNat len)] 6)) (T6.setTop (mkF m 58 #[.val (.ref b), .val (.int (Int32.ofNat o)), .val (.int (Int32.ofNat len)), .val (.ref s.heap.size), .val (.int (Int32.ofNat len)), .unset] [.ref s.heap.size])) := c7.trans (by
    refine XS.istore X6.here hexec rfl (hb hbytes d12) rfl rfl ?_
    refine XS.iload X6.here hexec rfl (hb hbytes d14) rfl ?_
    refine XS.iloadN X6.here hexec rfl (hb hbytes d16) rfl ?_
    refine XS.icmpYes X6.here hexec rfl (pc0 := 17) rfl (hb hbytes d17) rfl (ii_eq_t rfl) (by decide) rfl ?_
    refine XS.aloadN X6.here hexec rfl (hb hbytes d57) rfl rfl ?_
    exact Steps.refl _)
  have X8 := X6.wide (L' := []) (cells' := 1) (slots' := len) (fun x hx hlt => by
    simp only [List.nil_append, copyLocs, List.mem_map, List.mem_range] at hx
    obtain ⟨i, -, rfl⟩ := hx
    exact absurd hlt (Nat.lt_irrefl _)) (Nat.le_refl _) (by omega)
  exact ⟨T6, some (.ref s.heap.size), _, _, _, X8, rfl, rfl, rfl, (fun h => by cases h), ⟨⟨rfl, B6, ba3.like (X3.warmed.alike.symm.trans X6.warmed.alike) p6.1 f6.1 f6.2.1 f6.2.2.1, f6.2.1.trans bv3, by rw [X6.warmed.alike.findClass, f6.1]; exact bf3, by rw [f6.2.2.1, bs3]; simp, fun j hj => by rw [f6.2.2.2 j, if_pos (by omega)]; rfl, kp3.put p6 (Nat.le_refl _)⟩, by rw [p6.2.2, bh3, hh0]; simp⟩, fun fs hl => c8.trans (X8.areturnOut hexec rfl hret rfl (hb hbytes d58) hl)⟩
end Cmp3
namespace CodL
def yN : MethodName := ⟨"java/lang/StringUTF16", "coderFromArrayLen", "([BI)B"⟩
abbrev yB : ByteArray := jdk_52_method_15_code
theorem d0 : decode yB 0 = .ok (.iload_n 1, 1) := by decide +kernel
theorem d1 : decode yB 1 = .ok (.aload_n 0, 1) := by decide +kernel
theorem d2 : decode yB 2 = .ok (.arraylength, 1) := by decide +kernel
theorem d3 : decode yB 3 = .ok (.isub, 1) := by decide +kernel
theorem d4 : decode yB 4 = .ok (.bipush 31, 2) := by decide +kernel
theorem d6 : decode yB 6 = .ok (.iushr, 1) := by decide +kernel
theorem d7 : decode yB 7 = .ok (.i2b, 1) := by decide +kernel
theorem d8 : decode yB 8 = .ok (.ireturn, 1) := by decide +kernel
def site : List Cond := []
def tab : Cond := tabOf yN yB 2 (some .byte) site
def P (d : Addr) (B : Cell) (args : Array Value) (s : State) : Prop := args = #[.ref d, .int (Int32.ofNat B.slots.size)] ∧ Arr .byte d B s
def E (r : Option Value) (s u : State) : Prop := XT.PureE (some (.int 0)) r s u
/-- an array as long as the number of chars: LATIN1 -/
theorem law (l : Launch) (d : Addr) (B : Cell) : Law l yN 2 2 0 0 yB 2 (some .byte) site (P d B) E [] 0 0 := by
  refine Law.of_walk (plainFor_of_name (by decide +kernel)) (by decide +kernel) (by decide +kernel) (by decide) (fun _ _ h => by rw [h.1]; rfl) (fun _ U U' hal hh h => ⟨h.1, h.2.mv hal hh⟩) (fun r U U' V V' h1 hal h2 h => XT.PureE.mv r U U' V V' h1 hal h2 h) ?_
  intro p e s m args below meth c s₁ X0 hexec hbytes hml hret hlk hnm hown hh0 W hP
  obtain ⟨rfl, hB⟩ := hP
  have hB0 := hB.mv X0.warmed.alike hh0
  have c1 : Steps p.tables e below (s₁.setTop (entryFrame m #[.ref d, .int (Int32.ofNat B.slots.size)] 2)) (s₁.setTop (mkF m 0 #[.val (.ref d), .val (.int (Int32.ofNat B.slots.size))] [])) := entry rfl
  have c2 : Steps p.tables e below (s₁.setTop (entryFrame m #[.ref d, .int (Int32.ofNat B.slots.size)] 2)) (s₁.setTop (mkF m 2 #[.val (.ref d), .val (.int (Int32.ofNat B.slots.size))] [.ref d, .int (Int32.ofNat B.slots.size)])) := c1.trans (by
    refine XS.iloadN X0.here hexec rfl (hb hbytes d0) rfl ?_
    refine XS.aloadN X0.here hexec rfl (hb hbytes d1) rfl rfl ?_
    exact Steps.refl _)
  have c3 : Steps p.tables e below (s₁.setTop (entryFrame m #[.ref d, .int (Int32.ofNat B.slots.size)] 2)) (s₁.setTop (mkF m 8 #[.val (.ref d), .val (.int (Int32.ofNat B.slots.size))] [.int (lo8 (ushr (Int32.ofNat B.slots.size - Int32.ofNat B.slots.size) 31))])) := c2.trans (by
    refine X0.alen hexec hB0 rfl rfl (hb hbytes d2) ?_
    refine XS.isub X0.here hexec rfl (hb hbytes d3) rfl ?_
    refine bipushV X0.here hexec rfl 31 (hb hbytes d4) (by decide) ?_
    refine iushr X0.here hexec rfl (hb hbytes d6) rfl ?_
    refine i2b X0.here hexec rfl (hb hbytes d7) rfl ?_
    exact Steps.refl _)
  have e0 : lo8 (ushr (Int32.ofNat B.slots.size - Int32.ofNat B.slots.size) 31) = 0 := by rw [Int32.sub_self]; decide
  rw [e0] at c3
  exact ⟨s₁, some (.int 0), _, _, _, X0, rfl, rfl, rfl, (fun h => by cases h), ⟨rfl, hh0⟩, fun fs hl => c3.trans (X0.ireturnOut hexec hret rfl (Or.inr (Or.inr (Or.inl rfl))) (hb hbytes d8) hl)⟩
end CodL
/-- the String at a is Latin-1 over a new byte[] (the heap's one new cell): the low bytes of the len chars of A from o on; every cell but a is kept -/
def Got (a : Addr) (D : Cell) (fV fC : Field) (A : Cell) (o len : Nat) (r : Option Value) (s u : State) : Prop := r = none ∧ ∃ D' V : Cell, Blank "java/lang/String" a D' u ∧ Same D D' [fV.slot, fC.slot] ∧ D'.slots[fV.slot]? = some (.ref s.heap.size) ∧ D'.slots[fC.slot]? = some (.int 0) ∧ Arr .byte s.heap.size V u ∧ V.vm = .none ∧ u.vm.findClass "[B" = some V.cls ∧ V.slots.size = len ∧ (∀ j, j < len → V.slots[j]? = some (.int (lo8 (cv A (o + j))))) ∧ (∀ (y : Addr) (c : Cell), y ≠ a → s.heap[y]? = some c → u.heap[y]? = some c) ∧ u.heap.size = s.heap.size + 1
theorem Got.mv {a : Addr} {D A : Cell} {fV fC : Field} {o len : Nat} : ∀ r (U U' V V' : State), U'.heap = U.heap → V.vm.Alike V'.vm → V'.heap = V.heap → Got a D fV fC A o len r U V → Got a D fV fC A o len r U' V' :=
  fun r U U' V V' h1 hal h2 ⟨e0, D', X, a1, a2, a3, a4, a5, a6, a7, a8, a9, a10, a11⟩ => ⟨e0, D', X, a1.mv hal h2, a2, by rw [h1]; exact a3, a4, by rw [h1]; exact a5.mv hal h2, a6, by rw [hal.findClass]; exact a7, a8, a9, by rw [h1, h2]; exact a10, by rw [h1, h2]; exact a11⟩
namespace New4
def yN : MethodName := ⟨"java/lang/String", "<init>", "([CIILjava/lang/Void;)V"⟩
abbrev yB : ByteArray := jdk_42_method_149_code
theorem d0 : decode yB 0 = .ok (.aload_n 0, 1) := by decide +kernel
theorem d1 : decode yB 1 = .ok (.invokespecial 1, 3) := by decide +kernel
theorem d4 : decode yB 4 = .ok (.iload_n 3, 1) := by decide +kernel
theorem d5 : decode yB 5 = .ok (.ifCond (.ne) 22, 3) := by decide +kernel
theorem d27 : decode yB 27 = .ok (.getstatic 38, 3) := by decide +kernel
theorem d30 : decode yB 30 = .ok (.ifCond (.eq) 28, 3) := by decide +kernel
theorem d33 : decode yB 33 = .ok (.aload_n 1, 1) := by decide +kernel
theorem d34 : decode yB 34 = .ok (.iload_n 2, 1) := by decide +kernel
theorem d35 : decode yB 35 = .ok (.iload_n 3, 1) := by decide +kernel
theorem d36 : decode yB 36 = .ok (.invokestatic 177, 3) := by decide +kernel
theorem d39 : decode yB 39 = .ok (.astore 5, 2) := by decide +kernel
theorem d41 : decode yB 41 = .ok (.aload_n 0, 1) := by decide +kernel
theorem d42 : decode yB 42 = .ok (.aload 5, 2) := by decide +kernel
theorem d44 : decode yB 44 = .ok (.iload_n 3, 1) := by decide +kernel
theorem d45 : decode yB 45 = .ok (.invokestatic 47, 3) := by decide +kernel
theorem d48 : decode yB 48 = .ok (.putfield 15, 3) := by decide +kernel
theorem d51 : decode yB 51 = .ok (.aload_n 0, 1) := by decide +kernel
theorem d52 : decode yB 52 = .ok (.aload 5, 2) := by decide +kernel
theorem d54 : decode yB 54 = .ok (.putfield 9, 3) := by decide +kernel
theorem d57 : decode yB 57 = .ok (.return_, 1) := by decide +kernel
def site : List Cond := [.fieldLink "java/lang/String" 38 "java/lang/String" "COMPACT_STRINGS" "Z", Cmp3.tab, CodL.tab, .laysFinal "java/lang/String" "java/lang/String" "value" "[B", .fieldLink "java/lang/String" 9 "java/lang/String" "value" "[B", .laysFinal "java/lang/String" "java/lang/String" "coder" "B", .fieldLink "java/lang/String" 15 "java/lang/String" "coder" "B"] ++ objW "java/lang/String" 1 ++ staticW "java/lang/String" 177 Cmp3.yN ++ staticW "java/lang/String" 47 CodL.yN
def tab : Cond := tabOf yN yB 6 none site
def P (a : Addr) (D : Cell) (fV fC : Field) (b : Addr) (A : Cell) (z : Int32) (o len : Nat) (args : Array Value) (s : State) : Prop := args = #[.ref a, .ref b, .int (Int32.ofNat o), .int (Int32.ofNat len), .null] ∧ Blank "java/lang/String" a D s ∧ Found "java/lang/String" "value" "[B" fV s ∧ Found "java/lang/String" "coder" "B" fC s ∧ Ch b A s ∧ StaticIs s "java/lang/String" "COMPACT_STRINGS" "Z" (.int z) ∧ ¬ z = 0 ∧ 0 < len ∧ o + len ≤ A.slots.size ∧ len ≤ 536870912 ∧ ∀ i, i < len → ¬ 255 < cv A (o + i)
def E (a : Addr) (D : Cell) (fV fC : Field) (A : Cell) (o len : Nat) (r : Option Value) (s u : State) : Prop := Got a D fV fC A o len r s u
/-- len > 0, no char of the range above 255: a Latin-1 String of their low bytes -/
theorem law (l : Launch) (a : Addr) (D : Cell) (fV fC : Field) (b : Addr) (A : Cell) (z : Int32) (o len : Nat) : Law l yN 5 4 2 35 yB 6 none site (P a D fV fC b A z o len) (E a D fV fC A o len) [⟨a, fC.slot⟩, ⟨a, fV.slot⟩] 1 len := by
  refine Law.of_walk (plainFor_of_name (by decide +kernel)) (by decide +kernel) (by decide +kernel) (by decide) (fun _ _ h => by rw [h.1]; rfl) (fun _ U U' hal hh h => ⟨h.1, h.2.1.mv hal hh, h.2.2.1.al hal, h.2.2.2.1.al hal, h.2.2.2.2.1.mv hal hh, h.2.2.2.2.2.1.there hal hh, h.2.2.2.2.2.2⟩) (fun r U U' V V' h1 hal h2 h => Got.mv r U U' V V' h1 hal h2 h) ?_
  intro p e s m args below meth c s₁ X0 hexec hbytes hml hret hlk hnm hown hh0 W hP
  obtain ⟨rfl, hB, f1, f2, hA, s1, hz, l0, l1, l2, hp⟩ := hP
  have a31 := hA.1.2.2.2
  have c1 : Steps p.tables e below (s₁.setTop (entryFrame m #[.ref a, .ref b, .int (Int32.ofNat o), .int (Int32.ofNat len), .null] 6)) (s₁.setTop (mkF m 0 #[.val (.ref a), .val (.ref b), .val (.int (Int32.ofNat o)), .val (.int (Int32.ofNat len)), .val .null, .unset] [])) := entry rfl
  have c2 : Steps p.tables e below (s₁.setTop (entryFrame m #[.ref a, .ref b, .int (Int32.ofNat o), .int (Int32.ofNat len), .null] 6)) (s₁.setTop (mkF m 1 #[.val (.ref a), .val (.ref b), .val (.int (Int32.ofNat o)), .val (.int (Int32.ofNat len)), .val .null, .unset] [.ref a])) := c1.trans (by
    refine XS.aloadN X0.here hexec rfl (hb hbytes d0) rfl rfl ?_
    exact Steps.refl _)
  obtain ⟨T3, X3, q3, st3⟩ := X0.oinit hexec hown (wks W (objW "java/lang/String" 1)) (g := (mkF m 1 #[.val (.ref a), .val (.ref b), .val (.int (Int32.ofNat o)), .val (.int (Int32.ofNat len)), .val .null, .unset] [.ref a])) rfl (by rw [hml]; rfl) (rest := []) rfl (hb hbytes d1) (W := 0) (by show 2 * 0 + 0 ≤ _; decide) (Nat.le_of_ble_eq_true rfl) (Nat.le_of_ble_eq_true rfl)
  have hh3 := q3.trans hh0
  have c4 : Steps p.tables e below (s₁.setTop (entryFrame m #[.ref a, .ref b, .int (Int32.ofNat o), .int (Int32.ofNat len), .null] 6)) (T3.setTop (mkF m 27 #[.val (.ref a), .val (.ref b), .val (.int (Int32.ofNat o)), .val (.int (Int32.ofNat len)), .val .null, .unset] [])) := (c2.trans (st3 _ (Steps.refl _))).trans (by
    refine XS.iloadN X3.here hexec rfl (hb hbytes d4) rfl ?_
    refine XS.ifYes X3.here hexec rfl (pc0 := 5) rfl (hb hbytes d5) rfl (i0_ne_t (nz32 (by omega) l0)) (by decide) rfl ?_
    exact Steps.refl _)
  obtain ⟨T5, X5, q5, st5⟩ := X3.sget hexec hown (wk W (.fieldLink "java/lang/String" 38 "java/lang/String" "COMPACT_STRINGS" "Z")) s1 (fun _ _ h => by rw [hh3]; exact h) (g := (mkF m 27 #[.val (.ref a), .val (.ref b), .val (.int (Int32.ofNat o)), .val (.int (Int32.ofNat len)), .val .null, .unset] [])) rfl (hb hbytes d27)
  have hh5 := q5.trans hh3
  have c6 : Steps p.tables e below (s₁.setTop (entryFrame m #[.ref a, .ref b, .int (Int32.ofNat o), .int (Int32.ofNat len), .null] 6)) (T5.setTop (mkF m 30 #[.val (.ref a), .val (.ref b), .val (.int (Int32.ofNat o)), .val (.int (Int32.ofNat len)), .val .null, .unset] [.int z])) := c4.trans (st5 _ (Steps.refl _))
  have c7 : Steps p.tables e below (s₁.setTop (entryFrame m #[.ref a, .ref b, .int (Int32.ofNat o), .int (Int32.ofNat len), .null] 6)) (T5.setTop (mkF m 36 #[.val (.ref a), .val (.ref b), .val (.int (Int32.ofNat o)), .val (.int (Int32.ofNat len)), .val .null, .unset] [.int (Int32.ofNat len), .int (Int32.ofNat o), .ref b])) := c6.trans (by
    refine XS.ifNo X5.here hexec rfl (hb hbytes d30) rfl (i0_eq_f hz) ?_
    refine XS.aloadN X5.here hexec rfl (hb hbytes d33) rfl rfl ?_
    refine XS.iloadN X5.here hexec rfl (hb hbytes d34) rfl ?_
    refine XS.iloadN X5.here hexec rfl (hb hbytes d35) rfl ?_
    exact Steps.refl _)
  obtain ⟨v8, T8, X8, E8, g8⟩ := X5.callS hexec (Cmp3.law l b A o len) hown (wks W (staticW "java/lang/String" 177 Cmp3.yN)) (wk W Cmp3.tab) (W := 0) (Nat.le_of_ble_eq_true rfl) (Nat.le_of_ble_eq_true rfl) (Nat.le_refl _) (by show 0 + len ≤ len; omega) (g := (mkF m 36 #[.val (.ref a), .val (.ref b), .val (.int (Int32.ofNat o)), .val (.int (Int32.ofNat len)), .val .null, .unset] [.int (Int32.ofNat len), .int (Int32.ofNat o), .ref b])) rfl (by rw [hml]; rfl) c7 (argsL := [.ref b, .int (Int32.ofNat o), .int (Int32.ofNat len)]) (rest := []) rfl rfl (by show 2 * 0 + 0 ≤ _; decide) (hb hbytes d36) (⟨rfl, hA.mv X5.warmed.alike hh5, l1, l2, hp⟩)
  obtain ⟨e8, z8⟩ := E8
  obtain ⟨rfl, N, n1, n2, n3, n4, n5, n6⟩ := NewArr.mv _ T5 s _ _ hh5.symm (Vm.Alike.refl _) rfl e8
  rw [hh5] at z8
  have hB1 := hB.keep X8.warmed.alike (n6 _ _ hB.1)
  have hne : s.heap.size ≠ a := (Nat.ne_of_lt (Array.getElem?_eq_some_iff.mp hB.1).1).symm
  have c9 : Steps p.tables e below (s₁.setTop (entryFrame m #[.ref a, .ref b, .int (Int32.ofNat o), .int (Int32.ofNat len), .null] 6)) (T8.setTop (mkF m 39 #[.val (.ref a), .val (.ref b), .val (.int (Int32.ofNat o)), .val (.int (Int32.ofNat len)), .val .null, .unset] [.ref s.heap.size])) := g8
  have c10 : Steps p.tables e below (s₁.setTop (entryFrame m #[.ref a, .ref b, .int (Int32.ofNat o), .int (Int32.ofNat len), .null] 6)) (T8.setTop (mkF m 45 #[.val (.ref a), .val (.ref b), .val (.int (Int32.ofNat o)), .val (.int (Int32.ofNat len)), .val .null, .val (.ref s.heap.size)] [.int (Int32.ofNat N.slots.size), .ref s.heap.size, .ref a])) := by
    have hc : Steps p.tables e below (s₁.setTop (entryFrame m #[.ref a, .ref b, .int (Int32.ofNat o), .int (Int32.ofNat len), .null] 6)) (T8.setTop (mkF m 45 #[.val (.ref a), .val (.ref b), .val (.int (Int32.ofNat o)), .val (.int (Int32.ofNat len)), .val .null, .val (.ref s.heap.size)] [.int (Int32.ofNat len), .ref s.heap.size, .ref a])) := c9.trans (by
      refine XS.astore X8.here hexec rfl (hb hbytes d39) rfl rfl rfl ?_
      refine XS.aloadN X8.here hexec rfl (hb hbytes d41) rfl rfl ?_
      refine XS.aload X8.here hexec rfl (hb hbytes d42) rfl rfl ?_
      refine XS.iloadN X8.here hexec rfl (hb hbytes d44) rfl ?_
      exact Steps.refl _)
    rw [n4]; exact hc
  obtain ⟨v11, T11, X11, E11, g11⟩ := X8.callS hexec (CodL.law l s.heap.size N) hown (wks W (staticW "java/lang/String" 47 CodL.yN)) (wk W CodL.tab) (W := 1) (Nat.le_of_ble_eq_true rfl) (Nat.le_of_ble_eq_true rfl) (Nat.le_refl _) (by show 0 + len + 0 ≤ len; omega) (g := (mkF m 45 #[.val (.ref a), .val (.ref b), .val (.int (Int32.ofNat o)), .val (.int (Int32.ofNat len)), .val .null, .val (.ref s.heap.size)] [.int (Int32.ofNat N.slots.size), .ref s.heap.size, .ref a])) rfl (by rw [hml]; rfl) c10 (argsL := [.ref s.heap.size, .int (Int32.ofNat N.slots.size)]) (rest := [.ref a]) rfl rfl (by show 2 * 0 + (1 + 0) ≤ _; decide) (hb hbytes d45) (⟨rfl, n1⟩)
  obtain ⟨rfl, q11⟩ := E11
  have hB11 := hB1.mv (X8.warmed.alike.symm.trans X11.warmed.alike) q11
  have c12 : Steps p.tables e below (s₁.setTop (entryFrame m #[.ref a, .ref b, .int (Int32.ofNat o), .int (Int32.ofNat len), .null] 6)) (T11.setTop (mkF m 48 #[.val (.ref a), .val (.ref b), .val (.int (Int32.ofNat o)), .val (.int (Int32.ofNat len)), .val .null, .val (.ref s.heap.size)] [.int 0, .ref a])) := g11
  obtain ⟨T13, X13, p13, bl13, sl13, st13⟩ := X11.finit hexec hown (wk W (.fieldLink "java/lang/String" 15 "java/lang/String" "coder" "B")) (Or.inr ⟨_, (wk W (.laysFinal "java/lang/String" "java/lang/String" "coder" "B"))⟩) (Or.inl ⟨rfl, hnm⟩) f2 (Or.inl rfl) hB11 (t := .byte) (by decide +kernel) rfl (g := (mkF m 48 #[.val (.ref a), .val (.ref b), .val (.int (Int32.ofNat o)), .val (.int (Int32.ofNat len)), .val .null, .val (.ref s.heap.size)] [.int 0, .ref a])) rfl (rest := []) rfl (hb hbytes d48)
  have c14 : Steps p.tables e below (s₁.setTop (entryFrame m #[.ref a, .ref b, .int (Int32.ofNat o), .int (Int32.ofNat len), .null] 6)) (T13.setTop (mkF m 54 #[.val (.ref a), .val (.ref b), .val (.int (Int32.ofNat o)), .val (.int (Int32.ofNat len)), .val .null, .val (.ref s.heap.size)] [.ref s.heap.size, .ref a])) := (c12.trans (st13 _ (Steps.refl _))).trans (by
    refine XS.aloadN X13.here hexec rfl (hb hbytes d51) rfl rfl ?_
    refine XS.aload X13.here hexec rfl (hb hbytes d52) rfl rfl ?_
    exact Steps.refl _)
  obtain ⟨T15, X15, p15, bl15, sl15, st15⟩ := X13.finit hexec hown (wk W (.fieldLink "java/lang/String" 9 "java/lang/String" "value" "[B")) (Or.inr ⟨_, (wk W (.laysFinal "java/lang/String" "java/lang/String" "value" "[B"))⟩) (Or.inl ⟨rfl, hnm⟩) f1 (Or.inl rfl) bl13 (t := (.array .byte)) (by decide +kernel) rfl (g := (mkF m 54 #[.val (.ref a), .val (.ref b), .val (.int (Int32.ofNat o)), .val (.int (Int32.ofNat len)), .val .null, .val (.ref s.heap.size)] [.ref s.heap.size, .ref a])) rfl (rest := []) rfl (hb hbytes d54)
  have c16 : Steps p.tables e below (s₁.setTop (entryFrame m #[.ref a, .ref b, .int (Int32.ofNat o), .int (Int32.ofNat len), .null] 6)) (T15.setTop (mkF m 57 #[.val (.ref a), .val (.ref b), .val (.int (Int32.ofNat o)), .val (.int (Int32.ofNat len)), .val .null, .val (.ref s.heap.size)] [])) := c14.trans (st15 _ (Steps.refl _))
  have ap := apart (Or.inr ⟨_, (wk W (.laysFinal "java/lang/String" "java/lang/String" "value" "[B"))⟩) (Or.inr ⟨_, (wk W (.laysFinal "java/lang/String" "java/lang/String" "coder" "B"))⟩) f1 f2 (t₁ := .array .byte) (t₂ := .byte) (by decide +kernel) (by decide +kernel) (by decide)
  have al := X8.warmed.alike.symm.trans X15.warmed.alike
  have n7 : T11.heap[s.heap.size]? = some N := by rw [q11]; exact n1.1
  exact ⟨T15, none, _, _, _, X15, by simp, rfl, by omega, (fun _ => rfl), ⟨rfl, _, N, bl15, ((Same.refl D _).set _ (by simp)).set _ (by simp), sl15, (Cell.slots_setSlot_ne _ ap).trans sl13, n1.keep al (p15.other hne (p13.other hne n7)), n2, by rw [al.findClass]; exact n3, n4, n5, fun y c h1 h2 => p15.other h1 (p13.other h1 (by rw [q11]; exact n6 y c h2)), by rw [p15.2.2, p13.2.2, q11]; exact z8⟩, fun fs hl => c16.trans (X15.returnOut hexec hret (hb hbytes d57) hl)⟩
end New4
namespace New1
def yN : MethodName := ⟨"java/lang/String", "<init>", "([C)V"⟩
abbrev yB : ByteArray := jdk_42_method_3_code
theorem d0 : decode yB 0 = .ok (.aload_n 0, 1) := by decide +kernel
theorem d1 : decode yB 1 = .ok (.aload_n 1, 1) := by decide +kernel
theorem d2 : decode yB 2 = .ok (.iconst 0, 1) := by decide +kernel
theorem d3 : decode yB 3 = .ok (.aload_n 1, 1) := by decide +kernel
theorem d4 : decode yB 4 = .ok (.arraylength, 1) := by decide +kernel
theorem d5 : decode yB 5 = .ok (.aconst_null, 1) := by decide +kernel
theorem d6 : decode yB 6 = .ok (.invokespecial 27, 3) := by decide +kernel
theorem d9 : decode yB 9 = .ok (.return_, 1) := by decide +kernel
def site : List Cond := [New4.tab] ++ initW "java/lang/String" 27 New4.yN
def tab : Cond := tabOf yN yB 2 none site
def P (a : Addr) (D : Cell) (fV fC : Field) (b : Addr) (A : Cell) (z : Int32) (args : Array Value) (s : State) : Prop := args = #[.ref a, .ref b] ∧ Blank "java/lang/String" a D s ∧ Found "java/lang/String" "value" "[B" fV s ∧ Found "java/lang/String" "coder" "B" fC s ∧ Ch b A s ∧ StaticIs s "java/lang/String" "COMPACT_STRINGS" "Z" (.int z) ∧ ¬ z = 0 ∧ 0 < A.slots.size ∧ A.slots.size ≤ 536870912 ∧ ∀ i, i < A.slots.size → ¬ 255 < cv A i
def E (a : Addr) (D : Cell) (fV fC : Field) (A : Cell) (r : Option Value) (s u : State) : Prop := Got a D fV fC A 0 A.slots.size r s u
/-- new String(chars), not empty, no char above 255: a Latin-1 String of their low bytes -/
theorem law (l : Launch) (a : Addr) (D : Cell) (fV fC : Field) (b : Addr) (A : Cell) (z : Int32) : Law l yN 2 1 3 52 yB 2 none site (P a D fV fC b A z) (E a D fV fC A) [⟨a, fC.slot⟩, ⟨a, fV.slot⟩] 1 A.slots.size := by
  refine Law.of_walk (plainFor_of_name (by decide +kernel)) (by decide +kernel) (by decide +kernel) (by decide) (fun _ _ h => by rw [h.1]; rfl) (fun _ U U' hal hh h => ⟨h.1, h.2.1.mv hal hh, h.2.2.1.al hal, h.2.2.2.1.al hal, h.2.2.2.2.1.mv hal hh, h.2.2.2.2.2.1.there hal hh, h.2.2.2.2.2.2⟩) (fun r U U' V V' h1 hal h2 h => Got.mv r U U' V V' h1 hal h2 h) ?_
  intro p e s m args below meth c s₁ X0 hexec hbytes hml hret hlk hnm hown hh0 W hP
  obtain ⟨rfl, hB, f1, f2, hA, s1, hz, l0, l2, hp⟩ := hP
  have c1 : Steps p.tables e below (s₁.setTop (entryFrame m #[.ref a, .ref b] 2)) (s₁.setTop (mkF m 0 #[.val (.ref a), .val (.ref b)] [])) := entry rfl
  have c2 : Steps p.tables e below (s₁.setTop (entryFrame m #[.ref a, .ref b] 2)) (s₁.setTop (mkF m 6 #[.val (.ref a), .val (.ref b)] [.null, .int (Int32.ofNat A.slots.size), .int 0, .ref b, .ref a])) := c1.trans (by
    refine XS.aloadN X0.here hexec rfl (hb hbytes d0) rfl rfl ?_
    refine XS.aloadN X0.here hexec rfl (hb hbytes d1) rfl rfl ?_
    refine iconstV X0.here hexec rfl 0 (hb hbytes d2) (by decide) ?_
    refine XS.aloadN X0.here hexec rfl (hb hbytes d3) rfl rfl ?_
    refine X0.alen hexec (hA.1.mv X0.warmed.alike hh0) rfl rfl (hb hbytes d4) ?_
    refine XS.aconstNull X0.here hexec rfl (hb hbytes d5) ?_
    exact Steps.refl _)
  obtain ⟨v3, T3, X3, E3, g3⟩ := X0.callN hexec (New4.law l a D fV fC b A z 0 A.slots.size) rfl hown (wks W (initW "java/lang/String" 27 New4.yN)) (W New4.tab (by simp only [site, List.mem_cons, List.mem_append, true_or, or_true])) (W := 0) (Nat.le_of_ble_eq_true rfl) (Nat.le_of_ble_eq_true rfl) (Nat.le_refl _) (by show 0 + A.slots.size ≤ A.slots.size; omega) (g := (mkF m 6 #[.val (.ref a), .val (.ref b)] [.null, .int (Int32.ofNat A.slots.size), .int (Int32.ofNat 0), .ref b, .ref a])) rfl (by rw [hml]; rfl) c2 (argsL := [.ref b, .int (Int32.ofNat 0), .int (Int32.ofNat A.slots.size), .null]) (rest := []) rfl rfl (by show 2 * 0 + 0 ≤ _; decide) (hb hbytes d6) (⟨rfl, hB.mv X0.warmed.alike hh0, f1.al X0.warmed.alike, f2.al X0.warmed.alike, hA.mv X0.warmed.alike hh0, s1.there X0.warmed.alike hh0, hz, l0, by omega, l2, fun i hi => by rw [Nat.zero_add]; exact hp i hi⟩)
  have e0 := Got.mv _ s₁ s _ _ hh0.symm (Vm.Alike.refl _) rfl E3
  obtain rfl := e0.1
  have c4 : Steps p.tables e below (s₁.setTop (entryFrame m #[.ref a, .ref b] 2)) (T3.setTop (mkF m 9 #[.val (.ref a), .val (.ref b)] [])) := g3
  exact ⟨T3, none, _, _, _, X3, by simp, rfl, by omega, (fun _ => rfl), e0, fun fs hl => c4.trans (X3.returnOut hexec hret (hb hbytes d9) hl)⟩
theorem pays {l : Launch} {R : Room} {p : Program} {e : Env} {below : List Frame} {s : State} {sargs : Array Value} {len W : Nat} (a : Addr) (D : Cell) (fV fC : Field) (b : Addr) (A : Cell) (z : Int32) (htab : tab.before sargs s = true) (hfr : 4 ≤ R.frames) (hlo : W + 65 ≤ R.locals) :
    Back l R p e below s sargs yN len W (fun A₁ a₁ => A₁.cells + 1 ≤ R.cells ∧ A₁.slots + A.slots.size ≤ R.slots ∧ P a D fV fC b A z a₁ A₁.U) (fun A₁ _ v₁ B₁ => E a D fV fC A v₁ A₁.U B₁.U ∧ B₁.locs = A₁.locs ++ [⟨a, fC.slot⟩, ⟨a, fV.slot⟩] ∧ B₁.cells = A₁.cells + 1 ∧ B₁.slots = A₁.slots + A.slots.size) :=
  (law l a D fV fC b A z).pays htab hfr (by omega)
end New1
end StrChars
namespace StrChars.Road
open Jvm Sem ClassFile Op Lib Jvm.Stand Jvm.Free Jvm.Free.XT
open Jvm.Lib.Cold (StaticIs)
abbrev ST : String := "java/lang/String"
/-- every table word that New1's law asks, flat -/
abbrev words : List Jvm.Cond := [.code New1.yN New1.yB 2 none, .initialized ST, .methodLink ST 27 New4.yN, .instanceMethod New4.yN,
  .code New4.yN New4.yB 6 none, .fieldLink ST 38 ST "COMPACT_STRINGS" "Z", .laysFinal ST ST "value" "[B", .fieldLink ST 9 ST "value" "[B", .laysFinal ST ST "coder" "B", .fieldLink ST 15 ST "coder" "B",
  .methodLink ST 1 Lib.objectInit, .instanceMethod Lib.objectInit, .code Lib.objectInit ⟨#[0xb1]⟩ 1 none, .methodLink ST 177 Cmp3.yN, .static Cmp3.yN, .methodLink ST 47 CodL.yN, .static CodL.yN,
  .code Cmp3.yN Cmp3.yB 6 (some (.array .byte)), .initialized U16, .arrayClass .byte, .methodLink U16 115 Cmp5.yN, .static Cmp5.yN, .code Cmp5.yN Cmp5.yB 7 (some .int), .code CodL.yN CodL.yB 2 (some .byte)]
theorem tab_of {a : Array Value} {s : State} (h : ∀ w ∈ words, w.before a s = true) : New1.tab.before a s = true := by
  have h5 : Cmp5.tab.before a s = true := unparts (wk h (.code Cmp5.yN Cmp5.yB 7 (some .int))) (wks h (.initialized Cmp5.yN.cls :: Cmp5.site))
  have hc : CodL.tab.before a s = true := unparts (wk h (.code CodL.yN CodL.yB 2 (some .byte))) (wks h (.initialized CodL.yN.cls :: CodL.site))
  have q5 : ∀ w ∈ Cmp5.tab :: words, w.before a s = true := fun w hw => (List.mem_cons.mp hw).elim (fun e => e ▸ h5) (h w)
  have h3 : Cmp3.tab.before a s = true := unparts (wk q5 (.code Cmp3.yN Cmp3.yB 6 (some (.array .byte)))) (wks q5 (.initialized Cmp3.yN.cls :: Cmp3.site))
  have q3 : ∀ w ∈ Cmp3.tab :: CodL.tab :: words, w.before a s = true := fun w hw => (List.mem_cons.mp hw).elim (fun e => e ▸ h3) fun hw => (List.mem_cons.mp hw).elim (fun e => e ▸ hc) (h w)
  have h4 : New4.tab.before a s = true := unparts (wk q3 (.code New4.yN New4.yB 6 none)) (wks q3 (.initialized New4.yN.cls :: New4.site))
  have q4 : ∀ w ∈ New4.tab :: words, w.before a s = true := fun w hw => (List.mem_cons.mp hw).elim (fun e => e ▸ h4) (h w)
  exact unparts (wk q4 (.code New1.yN New1.yB 2 none)) (wks q4 (.initialized New1.yN.cls :: New1.site))
/-- the words ride from the start Z to the walk's own state -/
theorem moved {Z s : State} {a0 args : Array Value} (hZ : Z.Warmed39 s.vm) (hw : ∀ d ∈ words, d.before a0 Z = true) : ∀ d ∈ words, d.before args s = true := fun d hd => by
  have q := hw d hd
  have t : ∀ d ∈ words, d = .arrayClass .byte ∨ (d.onTables && d.keepsFace) = true := by decide +kernel
  rcases t d hd with rfl | t
  · exact RoadKit.mvA hZ q
  · exact RoadKit.mv hZ q t
/-- WHAT COMES BACK, over the tables of the start Z: h the heap at the call, h' behind it -/
def Q (Z : State) (x : Addr) (A : Cell) (h : Heap) (v : Option Value) (h' : Heap) (L : List Loc) : Prop := v = none ∧ (∀ y ∈ L, y.base = x) ∧ RoadKit.Keep h h' [x] ∧ h'.size = h.size + 1 ∧ RoadKit.Exa Z h' x ST ∧ RoadKit.Fld Z h' x ST "value" "[B" (.ref h.size) ∧ RoadKit.Fld Z h' x ST "coder" "B" (.int 0) ∧
  (∃ V : Cell, RoadKit.Arr Z h' h.size V .byte ∧ V.vm = .none ∧ Z.vm.findClass "[B" = some V.cls ∧ V.slots.size = A.slots.size ∧ ∀ j, j < A.slots.size → V.slots[j]? = some (.int (lo8 (cv A j)))) ∧
  ∀ (O n d : String) (w : Value), RoadKit.Fld Z h x O n d w → RoadKit.slotOf Z O n d ≠ RoadKit.slotOf Z ST "value" "[B" → RoadKit.slotOf Z O n d ≠ RoadKit.slotOf Z ST "coder" "B" → RoadKit.Fld Z h' x O n d w
/-- **new String(chars) AT A CALL, IN THE ROAD'S FORM**: for specialBack behind newO: x the fresh String, b the char[] with the cell A -/
theorem back {p : Program} {l : Launch} {e : Env} {R : Room} {s : State} {args : Array Value} {below : List Frame} {len W : Nat} {Z : State} {a0 : Array Value} {h : Heap} (hZ : Z.Warmed39 s.vm) (hw : ∀ d ∈ words, d.before a0 Z = true) {kI : Nat} (wi : (Jvm.Cond.instantiable ST kI).before a0 Z = true)
    {x b : Addr} {A : Cell} {z : Int32} {v0 c0 : Value} (E : RoadKit.Exa Z h x ST) (V : RoadKit.Fld Z h x ST "value" "[B" v0) (C : RoadKit.Fld Z h x ST "coder" "B" c0) (K : RoadKit.Arr Z h b A .char) (hty : Typed .char A) (S : RoadKit.Sta Z h ST "COMPACT_STRINGS" "Z" (.int z)) (hz : ¬ z = 0)
    (l0 : 0 < A.slots.size) (l2 : A.slots.size ≤ 536870912) (hp : ∀ i, i < A.slots.size → ¬ 255 < cv A i) (hfr : 4 ≤ R.frames) (hlo : W + 65 ≤ R.locals) :
    Back l R p e below s args New1.yN len W (fun P a => a = #[.ref x, .ref b] ∧ P.U.heap = h ∧ P.cells + 1 ≤ R.cells ∧ P.slots + A.slots.size ≤ R.slots)
      (fun P _ v B => ∃ L, Q Z x A h v B.U.heap L ∧ B.locs = P.locs ++ L ∧ B.cells = P.cells + 1 ∧ B.slots = P.slots + A.slots.size) := by
  intro m meth c P g ig mk a X hg hsize hdg hW hn hp'
  obtain ⟨rfl, rfl, r1, r2⟩ := hp'
  have al : Z.vm.Alike P.U.vm := hZ.alike.trans X.warmed.alike
  obtain ⟨D, cfV, kV, iV, fV, hD, gV, stV, knV, obV, asV, slV⟩ := id V
  obtain ⟨D', cfC, kC, iC, fC, hD', gC, stC, -, -, asC, slC⟩ := id C
  cases hD.symm.trans hD'
  obtain ⟨D2, kD, e1, e2, e3, e4, e5⟩ := id E
  cases hD.symm.trans e1
  obtain ⟨c2, k2, i1, i2, i3, -⟩ := Cond.instantiable_spec wi
  cases e2.symm.trans i1
  cases e3.symm.trans i2
  obtain ⟨kU, u1, u2⟩ := al.2.2 _ _ e3
  have hB : Blank ST x D P.U := ⟨hD, ⟨knV, fun q hq => by rw [hq] at obV; cases obV⟩, by rw [al.findClass]; exact e2, kU, u1, by rw [u2]; exact i3, by rw [u2]; exact e5 i3⟩
  have F1 : Found ST "value" "[B" fV P.U := ⟨SBG.found_only al ⟨cfV, kV, iV, gV⟩, stV⟩
  have F2 : Found ST "coder" "B" fC P.U := ⟨SBG.found_only al ⟨cfC, kC, iC, gC⟩, stC⟩
  have hA : Ch b A P.U := ⟨⟨K.1, State.isArrayOf_alike al K.2.1, K.2.2, by omega⟩, hty⟩
  have hS : StaticIs P.U ST "COMPACT_STRINGS" "Z" (.int z) := by
    obtain ⟨cfS, iS, kS, fS, st, cS, t1, t2, t3, t4, t5, t6, t7⟩ := S
    exact StaticIs.there (s := { Z with heap := P.U.heap }) ⟨cfS, iS, kS, fS, st, cS, t1, t2, t3, t4, t5, (fun q => by rw [q] at t6; cases t6), t7⟩ al rfl
  obtain ⟨v, B, X', ⟨⟨hv, E', V', q1, q2, q3, q4, q5, q6, q7, q8, q9, q10, q11⟩, hl, hc, hs⟩, st⟩ := New1.pays x D fV fC b A z (tab_of (moved hZ hw)) hfr hlo m meth c P g ig mk _ X hg hsize hdg hW hn ⟨r1, r2, rfl, hB, F1, F2, hA, hS, hz, l0, l2, hp⟩
  have al' : Z.vm.Alike B.U.vm := hZ.alike.trans X'.warmed.alike
  have hsz : E'.slots.size = D.slots.size := by
    obtain ⟨-, -, -, kB, w1, w2, w3⟩ := q1
    obtain ⟨kB', y1, y2⟩ := al'.2.2 _ _ e3
    rw [q2.2.1] at w1
    cases w1.symm.trans y1
    rw [w3, e5 i3, y2]
  refine ⟨v, B, X', ⟨_, ⟨hv, ?_, ⟨by omega, fun y cy hy hn' => q10 y cy (by simpa using hn') hy, fun y cy hy => ?_⟩, q11, ⟨E', _, q1.1, by rw [q2.2.1]; exact e2, by rw [q2.2.1]; exact e3, by rw [q2.1]; exact obV, fun _ => by rw [hsz]; exact e5 i3⟩,
    ⟨E', cfV, kV, iV, fV, q1.1, gV, stV, by rw [q2.1]; exact knV, by rw [q2.1]; exact obV, by rw [q2.2.1]; exact asV, q3⟩, ⟨E', cfC, kC, iC, fC, q1.1, gC, stC, by rw [q2.1]; exact knV, by rw [q2.1]; exact obV, by rw [q2.2.1]; exact asC, q4⟩,
    ⟨V', ⟨q5.1, State.isArrayOf_alike al'.symm q5.2.1, q5.2.2.1⟩, q6, by rw [← al'.findClass]; exact q7, q8, fun j hj => by have := q9 j hj; rwa [Nat.zero_add] at this⟩, fun O n d w F n1 n2 => ?_⟩, hl, hc, hs⟩, st⟩
  · intro y hy
    simp only [List.mem_cons, List.not_mem_nil, or_false] at hy
    rcases hy with rfl | rfl <;> rfl
  · by_cases q : y = x
    · subst q
      cases hD.symm.trans hy
      exact ⟨E', q1.1, q2.2.1, q2.1, hsz⟩
    · exact ⟨cy, q10 y cy q hy, rfl, rfl, rfl⟩
  · obtain ⟨D3, cf, k, i, f, g1, g2, g3, g4, g5, g6, g7⟩ := F
    cases hD.symm.trans g1
    simp only [RoadKit.slotOf, g2, gV, gC, Option.map_some, Option.getD_some] at n1 n2
    exact ⟨E', cf, k, i, f, q1.1, g2, g3, by rw [q2.1]; exact g4, by rw [q2.1]; exact g5, by rw [q2.2.1]; exact g6, by rw [q2.2.2 f.slot (by simp [n1, n2])]; exact g7⟩
end StrChars.Road
namespace StrChars.Road
open Jvm Sem ClassFile Op Lib Jvm.Stand Jvm.Free Jvm.Free.XT
/-- WHAT COMES BACK, the byte[] as a list of values -/
def QA (Z : State) (x : Addr) (zn : Int32) (cs : List Int32) (h : Heap) (v : Option Value) (h' : Heap) (L : List Loc) : Prop := v = none ∧ (∀ y ∈ L, y.base = x) ∧ RoadKit.Keep h h' [x] ∧ h'.size = h.size + 1 ∧ RoadKit.Exa Z h' x ST ∧ RoadKit.Fld Z h' x ST "value" "[B" (.ref h.size) ∧ RoadKit.Fld Z h' x ST "coder" "B" (.int 0) ∧
  (∃ kb, Z.vm.findClass "[B" = some kb ∧ RoadKit.Arv Z h' h.size kb .byte zn (cs.map fun c => .int (lo8 c)) (.int 0)) ∧
  ∀ (O n d : String) (w : Value), RoadKit.Fld Z h x O n d w → RoadKit.slotOf Z O n d ≠ RoadKit.slotOf Z ST "value" "[B" → RoadKit.slotOf Z O n d ≠ RoadKit.slotOf Z ST "coder" "B" → RoadKit.Fld Z h' x O n d w
/-- **new String(chars) AT A CALL, THE ARRAYS AS LISTS**: the char[] at b holds cs, not empty, no char above 255 -/
theorem backArv {p : Program} {l : Launch} {e : Env} {R : Room} {s : State} {args : Array Value} {below : List Frame} {len W : Nat} {Z : State} {a0 : Array Value} {h : Heap} (hZ : Z.Warmed39 s.vm) (hw : ∀ d ∈ words, d.before a0 Z = true) {kI : Nat} (wi : (Jvm.Cond.instantiable ST kI).before a0 Z = true)
    {x b : Addr} {k : ClassId} {zn z : Int32} {cs : List Int32} {dv v0 c0 : Value} (E : RoadKit.Exa Z h x ST) (V : RoadKit.Fld Z h x ST "value" "[B" v0) (C : RoadKit.Fld Z h x ST "coder" "B" c0) (K : RoadKit.Arv Z h b k .char zn (cs.map Value.int) dv) (S : RoadKit.Sta Z h ST "COMPACT_STRINGS" "Z" (.int z)) (hz : ¬ z = 0)
    (hlen : zn.toNatClampNeg = cs.length) (h0 : 0 < cs.length) (hbig : cs.length ≤ 536870912) (hall : ∀ c ∈ cs, ¬ 255 < c) (hfr : 4 ≤ R.frames) (hlo : W + 65 ≤ R.locals) :
    Back l R p e below s args New1.yN len W (fun P a => a = #[.ref x, .ref b] ∧ P.U.heap = h ∧ P.cells + 1 ≤ R.cells ∧ P.slots + cs.length ≤ R.slots)
      (fun P _ v B => ∃ L, QA Z x zn cs h v B.U.heap L ∧ B.locs = P.locs ++ L ∧ B.cells = P.cells + 1 ∧ B.slots = P.slots + cs.length) := by
  obtain ⟨A, K1, K2, K3, K4, K5, K6⟩ := K
  have e : A.slots.size = cs.length := K3.trans hlen
  have hat : ∀ (i : Nat) (hi : i < cs.length), A.slots[i]? = some (.int cs[i]) := fun i hi => by rw [K5 i (by omega)]; simp [List.getD_eq_getElem?_getD, hi]
  have hcv : ∀ (i : Nat) (hi : i < cs.length), cv A i = cs[i] := fun i hi => by unfold cv; rw [hat i hi]
  have hty : Typed .char A := fun i v hv => by
    have hi : i < A.slots.size := (Array.getElem?_eq_some_iff.mp hv).1
    have q := K5 i hi
    rw [hv] at q
    rw [Option.some.inj q]
    exact K6 i hi
  refine Back.mono (back hZ hw wi E V C K1 hty S hz (by omega) (by omega) (fun i hi => by rw [hcv i (by omega)]; exact hall _ (List.getElem_mem _)) hfr hlo) (fun P a hp => ⟨hp.1, hp.2.1, hp.2.2.1, by rw [e]; exact hp.2.2.2⟩) (fun P a v B hp hq => ?_)
  obtain ⟨L, ⟨q1, q2, q3, q4, q5, q6, q7, ⟨V', v1, v2, v3, v4, v5⟩, q9⟩, hl, hc, hs⟩ := hq
  refine ⟨L, ⟨q1, q2, q3, q4, q5, q6, q7, ⟨V'.cls, v3, V', v1, rfl, by rw [v4, e, hlen], K4, fun i hi => ?_, fun i hi => ?_⟩, q9⟩, hl, hc, by rw [hs, e]⟩
  · have hi' : i < cs.length := by omega
    rw [v5 i (by omega), hcv i hi']; simp [List.getD_eq_getElem?_getD, hi']
  · have hi' : i < cs.length := by omega
    simp only [List.getD_eq_getElem?_getD, List.getElem?_map, List.getElem?_eq_getElem hi', Option.map_some, Option.getD_some]
    exact fits_lo8 _
end StrChars.Road
namespace StrChars.Road
open Jvm Sem ClassFile Op Lib Jvm.Stand Jvm.Free Jvm.Free.XT
/-- WHAT COMES BACK, in the writer's own shape -/
def QV (Z : State) (x : Addr) (N : Int32) (bs : List Int32) (h : Heap) (n0 : Nat) (v : Option Value) (h' : Heap) (L : List Loc) : Prop := v = none ∧ RoadKit.Fr n0 L ∧ RoadKit.Keep h h' [x] ∧ RoadKit.Exa Z h' x ST ∧ RoadKit.Fld Z h' x ST "coder" "B" (.int 0) ∧
  ∃ (t : Addr) (kb : ClassId), n0 ≤ t ∧ h.size ≤ t ∧ ¬ t = x ∧ RoadKit.Fld Z h' x ST "value" "[B" (.ref t) ∧ RoadKit.Arv Z h' t kb .byte N (bs.map Value.int) (.int 0)
/-- **new String(chars) AT A CALL, FOR THE WRITER**: a char[] of n known ints, each 0 to 255 -/
theorem backV {p : Program} {l : Launch} {e : Env} {R : Room} {s : State} {args : Array Value} {below : List Frame} {len W : Nat} {Z : State} {a0 : Array Value} {h : Heap} (hZ : Z.Warmed39 s.vm) (hw : ∀ d ∈ words, d.before a0 Z = true) {kI : Nat} (wi : (Jvm.Cond.instantiable ST kI).before a0 Z = true)
    {x b : Addr} {kC : ClassId} {cs bs : List Int32} {d v0 c0 : Value} {z N : Int32} {n n0 : Nat} (hx0 : n0 ≤ x) (hh0 : n0 ≤ h.size) (E : RoadKit.Exa Z h x ST) (V : RoadKit.Fld Z h x ST "value" "[B" v0) (C : RoadKit.Fld Z h x ST "coder" "B" c0) (K : RoadKit.Arv Z h b kC .char N (cs.map Value.int) d) (S : RoadKit.Sta Z h ST "COMPACT_STRINGS" "Z" (.int z)) (hz : ¬ z = 0)
    (hn : cs.length = n) (hN : N = Int32.ofNat n) (l0 : 0 < n) (l2 : n ≤ 4000) (hp : ∀ c ∈ cs, ¬ c < 0 ∧ ¬ (255 : Int32) < c) (hb : bs = cs.map (fun c => c.toInt8.toInt32)) (hfr : 4 ≤ R.frames) (hlo : W + 65 ≤ R.locals) :
    Back l R p e below s args (⟨"java/lang/String", "<init>", "([C)V"⟩ : MethodName) len W (fun P a => a = #[.ref x, .ref b] ∧ P.U.heap = h ∧ P.cells + 1 ≤ R.cells ∧ P.slots + n ≤ R.slots)
      (fun P _ v B => ∃ L, QV Z x N bs h n0 v B.U.heap L ∧ B.locs = P.locs ++ L ∧ B.cells = P.cells + 1 ∧ B.slots = P.slots + n) := by
  subst hn hN hb
  refine Back.mono (backArv hZ hw wi E V C K S hz (n32 (by omega)) l0 (by omega) (fun c hc => (hp c hc).2) hfr hlo) (fun P a hp => hp) (fun P a v B hp hq => ?_)
  obtain ⟨L, ⟨q1, q2, q3, q4, q5, q6, q7, ⟨kb, v1, v2⟩, q9⟩, hl, hc, hs⟩ := hq
  exact ⟨L, ⟨q1, fun y hy => by rw [q2 y hy]; exact hx0, q3, q5, q7, h.size, kb, hh0, Nat.le_refl _, Nat.ne_of_gt E.lt, q6, by rw [List.map_map]; exact v2⟩, hl, hc, hs⟩
end StrChars.Road
end Jvm.Pilot.@@N@@
namespace Jvm.OwnKit
open Jvm Jvm.ClassFile Sem Op Lib Jvm.Free Jvm.Stand Jvm.LawKit Jvm.RoadKit Bundle
/-- what is left to show of a walk that stands at S: it ends, and Q holds there -/
def Go (tb : Tables) (e : Env) (below : List Frame) (Q : Outcome → State → Prop) (S : State) : Prop :=
  ∃ (U : State) (o : Outcome), Steps tb e below S U ∧ U.status = .running ∧ Ended U below o ∧ Q o U
section
variable {tb : Tables} {e : Env} {below : List Frame} {Q : Outcome → State → Prop} {S S' : State}
theorem Go.st (f : ∀ {t : State}, Steps tb e below S' t → Steps tb e below S t) (h : Go tb e below Q S') : Go tb e below Q S := by
  obtain ⟨U, o, h1, h2⟩ := h
  exact ⟨U, o, f h1, h2⟩
theorem Go.to (f : ∀ t : State, Steps tb e below S' t → Steps tb e below S t) (h : Go tb e below Q S') : Go tb e below Q S := Go.st (fun {t} => f t) h
theorem Go.run (f : Steps tb e below S S') (h : Go tb e below Q S') : Go tb e below Q S := by
  obtain ⟨U, o, h1, h2⟩ := h
  exact ⟨U, o, f.trans h1, h2⟩
end
theorem castGo {tb : Tables} {e : Env} {below : List Frame} {Q : Outcome → State → Prop} {T : State} {g g' : JFrame} (q : g = g') (k : Go tb e below Q (T.setTop g')) : Go tb e below Q (T.setTop g) := q ▸ k
/-- the end of a plain walk -/
def PEnd (s : State) (Qc : Option Value → Heap → List Loc → Prop) (kc ks : Nat) (o : Outcome) (U : State) : Prop :=
  ∃ v L, o = .returned v ∧ Qc v U.heap L ∧ FrameEnd s o U L kc ks
/-- a plain contract: from the heap h with these arguments it returns, Qc holds, the room is kept -/
def Con (l : Launch) (Z : State) (y : MethodName) (bytes : ByteArray) (maxL : Nat) (ret : Option FieldType) (rm : Room) (as' : Array Value) (h : Heap) (Qc : Option Value → Heap → List Loc → Prop) : Prop :=
  ∀ ws : List Jvm.Cond, MetFree l y (head1 (Jvm.Cond.code y bytes maxL ret :: ws) rm) (fun a U => a = as' ∧ Z.Warmed39 U.vm ∧ U.heap = h) (fun _ _ _ _ _ => True) (fun _ U o U' => PEnd U Qc rm.cells rm.slots o U')
theorem Con.intro {l : Launch} {Z : State} {y : MethodName} {bytes : ByteArray} {maxL : Nat} {ret : Option FieldType} {rm : Room} {as' : Array Value} {h : Heap} {Qc : Option Value → Heap → List Loc → Prop} (pn : plainFor y = true)
    (body : ∀ (p : Program) (e : Env) (s : State) (m : MethodId) (below : List Frame) (meth : Method) (c : Code) (T : State), Stand p l e rm s m as' below meth c T [] 0 0 → p.tables.exec = Jvm.exec → c.code = bytes → c.maxLocals = maxL →
      s.vm.findClass y.cls = some m.cls → meth.name = y.name → meth.sig.returnType = ret → meth.locks = false → Z.Warmed39 s.vm → T.heap = h →
      Go p.tables e below (PEnd s Qc rm.cells rm.slots) (T.setTop (entryFrame m as' maxL))) : Con l Z y bytes maxL ret rm as' h Qc := by
  intro ws
  refine MetFree.of_bodySF pn hisR ?_
  intro p e s m args below meth c s₁ Bd hml0 hP hK
  obtain ⟨rfl, hZ, hh⟩ := hP
  exact body p e s m below meth c s₁ (Stand.of_body Bd) Bd.exec Bd.bytes hml0 (findClass_of_methodNamed Bd.named) (name_of_methodNamed Bd.named Bd.method).1 Bd.returns Bd.notSynchronized hZ (by rw [← hh, Bd.state]; rfl)
/-- the end of a walk that may have interned -/
def SEnd (Z : State) (EL : List (String × Nat)) (s : State) (Qc : Option Value → Heap → List Loc → Prop) (kc ks : Nat) (o : Outcome) (U : State) : Prop :=
  ∃ v L, o = .returned v ∧ Qc v U.heap L ∧ CHr Z EL s.vm s.heap U.vm U.heap ∧ ReturnedEndW s o U L kc ks
/-- a contract of a method that may load String constants; sl: cells that no constant uses -/
def ConS (l : Launch) (Z : State) (EL : List (String × Nat)) (y : MethodName) (bytes : ByteArray) (maxL : Nat) (ret : Option FieldType) (rm : Room) (as' : Array Value) (h : Heap) (sl : List Addr) (Qc : Option Value → Heap → List Loc → Prop) : Prop :=
  ∀ ws : List Jvm.Cond, MetFree l y (head1 (Jvm.Cond.code y bytes maxL ret :: ws) rm) (fun a U => a = as' ∧ Z.Warmed39 U.vm ∧ U.heap = h ∧ CHv Z EL U.vm h ∧ ∀ x ∈ sl, Safe Z EL U.vm h x) (fun _ _ _ _ _ => True) (fun _ U o U' => SEnd Z EL U Qc rm.cells rm.slots o U')
theorem ConS.intro {l : Launch} {Z : State} {EL : List (String × Nat)} {y : MethodName} {bytes : ByteArray} {maxL : Nat} {ret : Option FieldType} {rm : Room} {as' : Array Value} {h : Heap} {sl : List Addr} {Qc : Option Value → Heap → List Loc → Prop} (pn : plainFor y = true)
    (body : ∀ (p : Program) (e : Env) (s : State) (m : MethodId) (below : List Frame) (meth : Method) (c : Code) (T : State) (v0 : Vm), Stand p l e rm (s.setVm v0) m as' below meth c T [] 0 0 → p.tables.exec = Jvm.exec → c.code = bytes → c.maxLocals = maxL →
      v0.findClass y.cls = some m.cls → meth.name = y.name → meth.sig.returnType = ret → meth.locks = false → Z.Warmed39 v0 → T.heap = h → s.Since v0 0 → CHr Z EL s.vm s.heap v0 h → (∀ x ∈ sl, Safe Z EL v0 h x) →
      Go p.tables e below (SEnd Z EL s Qc rm.cells rm.slots) (T.setTop (entryFrame m as' maxL))) : ConS l Z EL y bytes maxL ret rm as' h sl Qc := by
  intro ws
  refine MetFree.of_bodySF pn hisR ?_
  intro p e s m args below meth c s₁ Bd hml0 hP hK
  obtain ⟨rfl, hZ, hh, hC, hs⟩ := hP
  exact body p e s m below meth c s₁ s.vm (Stand.of_body Bd) Bd.exec Bd.bytes hml0 (findClass_of_methodNamed Bd.named) (name_of_methodNamed Bd.named Bd.method).1 Bd.returns Bd.notSynchronized hZ (by rw [← hh, Bd.state]; rfl) ((State.WarmedH.refl s).since 0) (by rw [hh]; exact CHr.refl hC) hs
section Ends
variable {p : Program} {l : Launch} {e : Env} {R : Room} {s : State} {m : MethodId} {args : Array Value} {below : List Frame} {meth : Method} {c : Code} {T : State} {locs : List Loc} {cells slots : Nat} {Z : State} {a0 : Array Value} {EL : List (String × Nat)} {h : Heap} {Qc : Option Value → Heap → List Loc → Prop} {kc ks pc : Nat} {Ls : Array Slot} {rest : List Value} {vm1 : Vm} {n1 : Nat}
/-- any plain end, its last step given -/
theorem endP (X : Stand p l e R s m args below meth c T locs cells slots) (hlk : meth.locks = false) {v : Option Value} (hv : meth.sig.returnType = none → v = none) {S : State}
    (hst : ∀ fs : List Frame, (∀ (f : JFrame) (acts : List Action), f.method = m → f.locked = none → f.entered = [] → (doReturn e (T.setTop f) acts v).1 = T.setFrames fs) → Steps p.tables e below S (T.setFrames fs))
    (hq : Qc v T.heap locs) (h1 : cells ≤ kc) (h2 : slots ≤ ks) : Go p.tables e below (PEnd s Qc kc ks) S := by
  obtain ⟨fs, hr, hrun, hended, hW, hsame⟩ := X.leave (v := v) hv hlk
  exact ⟨_, _, hst fs hr, hrun, hended, _, _, rfl, hq, ⟨_, rfl⟩, hW, hsame.mono h1 h2⟩
theorem mono_sbn {s t : State} {L : List Loc} {k n k' n' : Nat} {o : Outcome} (h : ReturnedEndW s o t L k n) (h1 : k ≤ k') (h2 : n ≤ n') : ReturnedEndW s o t L k' n' := ⟨h.1, h.2.1, h.2.2.1, h.2.2.2.mono h1 h2⟩
theorem endC (X : Stand p l e R (s.setVm vm1) m args below meth c T locs cells slots) (hlk : meth.locks = false) (hS : s.Since vm1 n1) (hk : n1 ≤ T.heap.size) (hZ : Z.Warmed39 vm1) (w : EW Z a0 EL) (C : CHr Z EL s.vm s.heap vm1 T.heap) {v : Option Value} (hv : meth.sig.returnType = none → v = none) {S : State}
    (hst : ∀ fs : List Frame, (∀ (f : JFrame) (acts : List Action), f.method = m → f.locked = none → f.entered = [] → (doReturn e (T.setTop f) acts v).1 = T.setFrames fs) → Steps p.tables e below S (T.setFrames fs))
    (hq : Qc v T.heap locs) (h1 : cells ≤ kc) (h2 : slots ≤ ks) : Go p.tables e below (SEnd Z EL s Qc kc ks) S := by
  obtain ⟨fs, hr, hrun, hended, hW⟩ := X.leaveW hS hk (v := v) hv hlk
  have hC : CHr Z EL s.vm s.heap T.vm T.heap := C.trans (CHv.at X hZ w C.1)
  exact ⟨_, _, hst fs hr, hrun, hended, _, _, rfl, hq, hC, mono_sbn hW h1 h2⟩
/-- the last steps -/
theorem lastV (X : Stand p l e R s m args below meth c T locs cells slots) (hx : p.tables.exec = Jvm.exec) (hret : meth.sig.returnType = none) (hd : decode c.code pc = .ok (.return_, 1)) : ∀ fs : List Frame, (∀ (f : JFrame) (acts : List Action), f.method = m → f.locked = none → f.entered = [] → (doReturn e (T.setTop f) acts none).1 = T.setFrames fs) →
    Steps p.tables e below (T.setTop (mkF m pc Ls [])) (T.setFrames fs) := fun fs hr => X.returnOut hx hret hd hr
theorem lastN (X : Stand p l e R s m args below meth c T locs cells slots) (hx : p.tables.exec = Jvm.exec) {z z' : Int32} {t : FieldType} (hret : meth.sig.returnType = some t) (ht : t = .boolean ∨ t = .byte ∨ t = .char ∨ t = .short) (hz : nar t z = z') (hd : decode c.code pc = .ok (.ireturn, 1)) :
    ∀ fs : List Frame, (∀ (f : JFrame) (acts : List Action), f.method = m → f.locked = none → f.entered = [] → (doReturn e (T.setTop f) acts (some (.int z'))).1 = T.setFrames fs) → Steps p.tables e below (T.setTop (mkF m pc Ls (.int z :: rest))) (T.setFrames fs) := fun fs hr => by
  subst hz; exact retN X hx hret ht hd hr
theorem lastI (X : Stand p l e R s m args below meth c T locs cells slots) (hx : p.tables.exec = Jvm.exec) {z : Int32} (hret : meth.sig.returnType = some .int) (hd : decode c.code pc = .ok (.ireturn, 1)) :
    ∀ fs : List Frame, (∀ (f : JFrame) (acts : List Action), f.method = m → f.locked = none → f.entered = [] → (doReturn e (T.setTop f) acts (some (.int z))).1 = T.setFrames fs) → Steps p.tables e below (T.setTop (mkF m pc Ls (.int z :: rest))) (T.setFrames fs) := fun fs hr =>
  retOut X hx hret rfl (Or.inl ⟨rfl, Or.inl rfl, z, rfl⟩) hd hr
theorem lastA (X : Stand p l e R s m args below meth c T locs cells slots) (hx : p.tables.exec = Jvm.exec) {w : Value} {t : FieldType} (hret : meth.sig.returnType = some t) (ht : t.isReference = true) (hn : narrow t w = w) (hw : w.isRef = true) (hd : decode c.code pc = .ok (.areturn, 1)) :
    ∀ fs : List Frame, (∀ (f : JFrame) (acts : List Action), f.method = m → f.locked = none → f.entered = [] → (doReturn e (T.setTop f) acts (some w)).1 = T.setFrames fs) → Steps p.tables e below (T.setTop (mkF m pc Ls (w :: rest))) (T.setFrames fs) := fun fs hr =>
  retOut X hx hret hn (Or.inr (Or.inr (Or.inr (Or.inr ⟨rfl, ht, hw⟩)))) hd hr
end Ends
/-- what pays a call: from the heap h, k cells and n slots -/
abbrev BackQ (l : Launch) (R : Room) (p : Program) (e : Env) (below : List Frame) (s : State) (sargs : Array Value) (y : MethodName) (len W : Nat) (as' : Array Value) (h : Heap) (k n : Nat) (Q : Option Value → Heap → List Loc → Prop) : Prop :=
  Back l R p e below s sargs y len W (fun A a => a = as' ∧ A.U.heap = h ∧ A.cells + k ≤ R.cells ∧ A.slots + n ≤ R.slots) (fun A _ v B => ∃ L, Q v B.U.heap L ∧ B.locs = A.locs ++ L ∧ B.cells = A.cells + k ∧ B.slots = A.slots + n)
abbrev BackSQ (l : Launch) (R : Room) (p : Program) (e : Env) (below : List Frame) (s : State) (vm0 : Vm) (sargs : Array Value) (y : MethodName) (len W : Nat) (as' : Array Value) (h : Heap) (k n : Nat) (Z : State) (EL : List (String × Nat)) (Q : Option Value → Heap → List Loc → Prop) : Prop :=
  BackS l R p e below (s.setVm vm0) sargs y len W (fun A a => a = as' ∧ A.U.heap = h ∧ A.cells + k ≤ R.cells ∧ A.slots + n ≤ R.slots) (fun A _ v B => ∃ L, Q v B.U.heap L ∧ B.locs = A.locs ++ L ∧ B.cells = A.cells + k ∧ B.slots = A.slots + n ∧ CHr Z EL vm0 h B.U.vm B.U.heap)
section Calls
variable {p : Program} {l : Launch} {e : Env} {R : Room} {s : State} {m : MethodId} {args : Array Value} {below : List Frame} {meth : Method} {c : Code} {T : State} {locs : List Loc} {cells slots : Nat} {Z : State} {a0 : Array Value} {EL : List (String × Nat)} {h : Heap} {Qc : Option Value → Heap → List Loc → Prop} {vm0 : Vm} {n0 : Nat}
  {y z : MethodName} {bytes : ByteArray} {maxL : Nat} {ret : Option FieldType} {rm : Room} {as' : Array Value} {own C : String} {index count W k n len : Nat} {g : JFrame} {a : Addr} {argsL rest : List Value}
theorem Con.back (hM : Con l Z y bytes maxL ret rm as' h Qc) (hZ : Z.Warmed39 s.vm) (wc : (Jvm.Cond.code y bytes maxL ret).before a0 Z = true) (wz : (Jvm.Cond.initialized y.cls).before a0 Z = true) (hf : rm.frames + 1 ≤ R.frames) (hl : W + (maxL + 11) + rm.locals ≤ R.locals) :
    BackQ l R p e below s args y len W as' h rm.cells rm.slots Qc := backOf (Q := Qc) (hM []) hZ wc wz hf hl
theorem ConS.back {sl : List Addr} (hM : ConS l Z EL y bytes maxL ret rm as' h sl Qc) (hZ : Z.Warmed39 vm0) (wc : (Jvm.Cond.code y bytes maxL ret).before a0 Z = true) (wz : (Jvm.Cond.initialized y.cls).before a0 Z = true) (hf : rm.frames + 1 ≤ R.frames) (hl : W + (maxL + 11) + rm.locals ≤ R.locals) (hEL : EW Z a0 EL) (H : CHv Z EL vm0 h)
    (hs : ∀ x ∈ sl, Safe Z EL vm0 h x) (hlt : ∀ x ∈ sl, x < h.size) : BackSQ l R p e below s vm0 args y len W as' h rm.cells rm.slots Z EL Qc :=
  BackS.of_freeW (bytes := bytes) (maxL := maxL) (ret := ret) (E := fun _ first o t L k n => k = rm.cells ∧ n = rm.slots ∧ (∃ v, o = .returned v ∧ Qc v t.heap L) ∧ CHr Z EL first.vm first.heap t.vm t.heap) (hM []) hf hl
    (fun m meth c A a Y hp => have hU : Z.Warmed39 A.U.vm := wtrans (s := s.setVm vm0) hZ Y.warmed
      ⟨by show (Cond.and _ .tt).before a A.U = true; rw [Cond.before_and, mv hU wc]; rfl, mv hU wc, mv hU wz, hp.2.2.1, hp.2.2.2⟩)
    (fun m meth c A a g mk Y hp => ⟨hp.1, wtrans (s := s.setVm vm0) hZ Y.warmed, hp.2.1, (CHv.at Y hZ hEL H).1, fun x hx => (CHv.at Y hZ hEL H).safe (hlt x hx) (hs x hx)⟩) (fun _ _ _ _ _ _ _ _ _ => trivial)
    (fun _ _ _ _ ⟨v, L, h1, h2, h3, h4⟩ => ⟨L, _, _, h4, rfl, rfl, ⟨v, h1, h2⟩, h3⟩)
    (fun m meth c A a g mk v t L k n Y hp _ _ ⟨e1, e2, ⟨v', e3, e4⟩, e5⟩ => by
      cases e3; subst e1 e2
      refine ⟨L, e4, rfl, rfl, rfl, (CHv.at Y hZ hEL H).trans ?_⟩
      rw [← hp.2.1]; exact e5)
theorem callSp (X : Stand p l e R s m args below meth c T locs cells slots) (hx : p.tables.exec = Jvm.exec) (hZ : Z.Warmed39 s.vm) (hown : s.vm.findClass own = some m.cls) (hy1 : y.name = "<init>") (w1 : (Jvm.Cond.methodLink own index y).before a0 Z = true) (w2 : (Jvm.Cond.instanceMethod y).before a0 Z = true) (w3 : (Jvm.Cond.code y bytes maxL none).before a0 Z = true)
    (hyc : y.cls ≠ "java/lang/invoke/MethodHandle" ∧ y.cls ≠ "java/lang/invoke/VarHandle") (eT : T.heap = h) (hK : BackQ l R p e below s args y 3 W (.ref a :: argsL).toArray h k n Qc)
    (hg : g.method = m) (hsize : g.locals.size = c.maxLocals) (hlen : ∀ sig, parseMethodDescriptor y.desc = some sig → argsL.length = sig.parameters.length) (hstack : g.stack = argsL.reverse ++ .ref a :: rest) (hW : 2 * g.monitorRoom + (rest.map fun v => v.category).sum ≤ W)
    (hdg : decode c.code g.pc = .ok (.invokespecial index, 3)) (hc : cells + k ≤ R.cells) (hs : slots + n ≤ R.slots) :
    ∃ v T' L, Stand p l e R s m args below meth c T' (locs ++ L) (cells + k) (slots + n) ∧ Qc v T'.heap L ∧ Steps p.tables e below (T.setTop g) (T'.setTop { g with pc := g.pc + 3, stack := v.toList ++ rest }) := by
  obtain ⟨v, vm1, ⟨T', L', k', n'⟩, -, X', ⟨L, hQ, rfl, rfl, rfl⟩, st⟩ := X.specialBack hx hy1 hown (mvT hZ w1) (mvT hZ w2) (mvT hZ w3) hyc hK hg hsize (Steps.refl _) hlen hstack hW hdg (fun _ _ => ⟨rfl, eT, hc, hs⟩)
  exact ⟨v, T', L, X', hQ, st⟩
theorem callVi (X : Stand p l e R s m args below meth c T locs cells slots) (hx : p.tables.exec = Jvm.exec) (hZ : Z.Warmed39 s.vm) (hown : s.vm.findClass own = some m.cls) (w1 : (Jvm.Cond.methodLink own index y).before a0 Z = true) (w2 : (Jvm.Cond.declares y).before a0 Z = true) (nf : NotFace s y) (w4 : (Jvm.Cond.selects C y z).before a0 Z = true) (w5 : (Jvm.Cond.instanceMethod z).before a0 Z = true)
    (hyc : y.cls ≠ "java/lang/invoke/MethodHandle" ∧ y.cls ≠ "java/lang/invoke/VarHandle") (eT : T.heap = h) (E : Exa Z h a C) (hK : BackQ l R p e below s args z 3 W (.ref a :: argsL).toArray h k n Qc)
    (hg : g.method = m) (hsize : g.locals.size = c.maxLocals) (hlen : ∀ sig, parseMethodDescriptor y.desc = some sig → argsL.length = sig.parameters.length) (hstack : g.stack = argsL.reverse ++ .ref a :: rest) (hW : 2 * g.monitorRoom + (rest.map fun v => v.category).sum ≤ W)
    (hdg : decode c.code g.pc = .ok (.invokevirtual index, 3)) (hc : cells + k ≤ R.cells) (hs : slots + n ≤ R.slots) :
    ∃ v T' L, Stand p l e R s m args below meth c T' (locs ++ L) (cells + k) (slots + n) ∧ Qc v T'.heap L ∧ Steps p.tables e below (T.setTop g) (T'.setTop { g with pc := g.pc + 3, stack := v.toList ++ rest }) := by
  obtain ⟨cB, kB, q1, q2, q3⟩ := isOf hZ eT E
  obtain ⟨v, vm1, ⟨T', L', k', n'⟩, -, X', ⟨L, hQ, rfl, rfl, rfl⟩, st⟩ := X.virtualBack hx hown (mvT hZ w1) (mvT hZ w2) nf (mvT hZ w4) (mvT hZ w5) hyc hK q1 q3 hg hsize (Steps.refl _) hlen hstack hW hdg (fun _ _ => ⟨rfl, eT, hc, hs⟩)
  exact ⟨v, T', L, X', hQ, st⟩
theorem callSt (X : Stand p l e R s m args below meth c T locs cells slots) (hx : p.tables.exec = Jvm.exec) (hZ : Z.Warmed39 s.vm) (hown : s.vm.findClass own = some m.cls) (w1 : (Jvm.Cond.methodLink own index y).before a0 Z = true) (w2 : (Jvm.Cond.static y).before a0 Z = true) (w3 : (Jvm.Cond.initialized y.cls).before a0 Z = true) (w4 : (Jvm.Cond.code y bytes maxL ret).before a0 Z = true)
    (hyc : y.cls ≠ "java/lang/invoke/MethodHandle" ∧ y.cls ≠ "java/lang/invoke/VarHandle") (eT : T.heap = h) (hK : BackQ l R p e below s args y 3 W argsL.toArray h k n Qc)
    (hg : g.method = m) (hsize : g.locals.size = c.maxLocals) (hlen : ∀ sig, parseMethodDescriptor y.desc = some sig → argsL.length = sig.parameters.length) (hstack : g.stack = argsL.reverse ++ rest) (hW : 2 * g.monitorRoom + (rest.map fun v => v.category).sum ≤ W)
    (hdg : decode c.code g.pc = .ok (.invokestatic index, 3)) (hc : cells + k ≤ R.cells) (hs : slots + n ≤ R.slots) :
    ∃ v T' L, Stand p l e R s m args below meth c T' (locs ++ L) (cells + k) (slots + n) ∧ Qc v T'.heap L ∧ Steps p.tables e below (T.setTop g) (T'.setTop { g with pc := g.pc + 3, stack := v.toList ++ rest }) := by
  obtain ⟨v, vm1, ⟨T', L', k', n'⟩, -, X', ⟨L, hQ, rfl, rfl, rfl⟩, st⟩ := Jvm.LawKit.callS X hx hown (mvT hZ w1) (mvT hZ w2) (mvT hZ w3) (mvT hZ w4) hyc hK hg hsize hlen hstack hW hdg (fun _ _ => ⟨rfl, eT, hc, hs⟩)
  exact ⟨v, T', L, X', hQ, st _ (Steps.refl _)⟩
theorem callVu (X : Stand p l e R s m args below meth c T locs cells slots) (hx : p.tables.exec = Jvm.exec) (hZ : Z.Warmed39 s.vm) (hown : s.vm.findClass own = some m.cls) {owner : String} (w1 : (Jvm.Cond.methodLink own index y).before a0 Z = true) (w2 : (Jvm.Cond.sameMethod y.cls owner y.name y.desc).before a0 Z = true) (w3 : (Jvm.Cond.declares ⟨owner, y.name, y.desc⟩).before a0 Z = true) (hyc : owner ≠ "java/lang/invoke/MethodHandle" ∧ owner ≠ "java/lang/invoke/VarHandle") (w4 : (Jvm.Cond.selects C y z).before a0 Z = true) (w5 : (Jvm.Cond.instanceMethod z).before a0 Z = true)
    (eT : T.heap = h) (E : Exa Z h a C) (hK : BackQ l R p e below s args z 3 W (.ref a :: argsL).toArray h k n Qc)
    (hg : g.method = m) (hsize : g.locals.size = c.maxLocals) (hlen : ∀ sig, parseMethodDescriptor y.desc = some sig → argsL.length = sig.parameters.length) (hstack : g.stack = argsL.reverse ++ .ref a :: rest) (hW : 2 * g.monitorRoom + (rest.map fun v => v.category).sum ≤ W)
    (hdg : decode c.code g.pc = .ok (.invokevirtual index, 3)) (hc : cells + k ≤ R.cells) (hs : slots + n ≤ R.slots) :
    ∃ v T' L, Stand p l e R s m args below meth c T' (locs ++ L) (cells + k) (slots + n) ∧ Qc v T'.heap L ∧ Steps p.tables e below (T.setTop g) (T'.setTop { g with pc := g.pc + 3, stack := v.toList ++ rest }) := by
  obtain ⟨cB, kB, q1, q2, q3⟩ := isOf hZ eT E
  obtain ⟨v, vm1, ⟨T', L', k', n'⟩, -, X', ⟨L, hQ, rfl, rfl, rfl⟩, st⟩ := X.virtualBackUp hx hown (mvT hZ w1) (mvT hZ w2) (mvT hZ w3) hyc (mvT hZ w4) (mvT hZ w5) hK q1 q3 hg hsize (Steps.refl _) hlen hstack hW hdg (fun _ _ => ⟨rfl, eT, hc, hs⟩)
  exact ⟨v, T', L, X', hQ, st⟩
/-- what stands behind a call that may have interned -/
def AfterS (p : Program) (l : Launch) (e : Env) (R : Room) (s : State) (m : MethodId) (args : Array Value) (below : List Frame) (meth : Method) (c : Code) (Z : State) (EL : List (String × Nat)) (own : String) (vm0 : Vm) (h : Heap) (T' : State) (locs : List Loc) (cells slots : Nat) : Prop :=
  Stand p l e R (s.setVm T'.vm) m args below meth c T' locs cells slots ∧ s.Since T'.vm T'.heap.size ∧ Z.Warmed39 T'.vm ∧ T'.vm.findClass own = some m.cls ∧ CHr Z EL vm0 h T'.vm T'.heap
theorem callSpS (X : Stand p l e R (s.setVm vm0) m args below meth c T locs cells slots) (hx : p.tables.exec = Jvm.exec) (hZ : Z.Warmed39 vm0) (hown : vm0.findClass own = some m.cls) (hS : s.Since vm0 n0) (hk : n0 ≤ h.size) (hy1 : y.name = "<init>") (w1 : (Jvm.Cond.methodLink own index y).before a0 Z = true) (w2 : (Jvm.Cond.instanceMethod y).before a0 Z = true) (w3 : (Jvm.Cond.code y bytes maxL none).before a0 Z = true)
    (hyc : y.cls ≠ "java/lang/invoke/MethodHandle" ∧ y.cls ≠ "java/lang/invoke/VarHandle") (eT : T.heap = h) (hK : BackSQ l R p e below s vm0 args y 3 W (.ref a :: argsL).toArray h k n Z EL Qc)
    (hg : g.method = m) (hsize : g.locals.size = c.maxLocals) (hlen : ∀ sig, parseMethodDescriptor y.desc = some sig → argsL.length = sig.parameters.length) (hstack : g.stack = argsL.reverse ++ .ref a :: rest) (hW : 2 * g.monitorRoom + (rest.map fun v => v.category).sum ≤ W)
    (hdg : decode c.code g.pc = .ok (.invokespecial index, 3)) (hc : cells + k ≤ R.cells) (hs : slots + n ≤ R.slots) :
    ∃ v T' L, AfterS p l e R s m args below meth c Z EL own vm0 h T' (locs ++ L) (cells + k) (slots + n) ∧ Qc v T'.heap L ∧ Steps p.tables e below (T.setTop g) (T'.setTop { g with pc := g.pc + 3, stack := v.toList ++ rest }) := by
  obtain ⟨v, vm1, ⟨T', L', k', n'⟩, -, X', h2, gr, ⟨L, hQ, rfl, rfl, rfl, hC⟩, st⟩ := X.specialBackS hx hy1 hown (mvT hZ w1) (mvT hZ w2) (mvT hZ w3) hyc hK hg hsize (Steps.refl _) hlen hstack hW hdg (fun _ _ => ⟨rfl, eT, hc, hs⟩)
  obtain ⟨b1, b2, b3, b4⟩ := rebS hS (eT ▸ hk) X' h2 gr hZ hown
  exact ⟨v, T', L, ⟨b1, b2, b3, b4, hC⟩, hQ, st⟩
theorem callViS (X : Stand p l e R (s.setVm vm0) m args below meth c T locs cells slots) (hx : p.tables.exec = Jvm.exec) (hZ : Z.Warmed39 vm0) (hown : vm0.findClass own = some m.cls) (hS : s.Since vm0 n0) (hk : n0 ≤ h.size) (w1 : (Jvm.Cond.methodLink own index y).before a0 Z = true) (w2 : (Jvm.Cond.declares y).before a0 Z = true) (nf : NotFace (s.setVm vm0) y) (w4 : (Jvm.Cond.selects C y z).before a0 Z = true) (w5 : (Jvm.Cond.instanceMethod z).before a0 Z = true)
    (hyc : y.cls ≠ "java/lang/invoke/MethodHandle" ∧ y.cls ≠ "java/lang/invoke/VarHandle") (eT : T.heap = h) (E : Exa Z h a C) (hK : BackSQ l R p e below s vm0 args z 3 W (.ref a :: argsL).toArray h k n Z EL Qc)
    (hg : g.method = m) (hsize : g.locals.size = c.maxLocals) (hlen : ∀ sig, parseMethodDescriptor y.desc = some sig → argsL.length = sig.parameters.length) (hstack : g.stack = argsL.reverse ++ .ref a :: rest) (hW : 2 * g.monitorRoom + (rest.map fun v => v.category).sum ≤ W)
    (hdg : decode c.code g.pc = .ok (.invokevirtual index, 3)) (hc : cells + k ≤ R.cells) (hs : slots + n ≤ R.slots) :
    ∃ v T' L, AfterS p l e R s m args below meth c Z EL own vm0 h T' (locs ++ L) (cells + k) (slots + n) ∧ Qc v T'.heap L ∧ Steps p.tables e below (T.setTop g) (T'.setTop { g with pc := g.pc + 3, stack := v.toList ++ rest }) := by
  obtain ⟨cB, kB, q1, q2, q3⟩ := isOf (s := s.setVm vm0) hZ eT E
  obtain ⟨v, vm1, ⟨T', L', k', n'⟩, -, X', h2, gr, ⟨L, hQ, rfl, rfl, rfl, hC⟩, st⟩ := X.virtualBackS hx hown (mvT hZ w1) (mvT hZ w2) nf (mvT hZ w4) (mvT hZ w5) hyc hK q1 q3 hg hsize (Steps.refl _) hlen hstack hW hdg (fun _ _ => ⟨rfl, eT, hc, hs⟩)
  obtain ⟨b1, b2, b3, b4⟩ := rebS hS (eT ▸ hk) X' h2 gr hZ hown
  exact ⟨v, T', L, ⟨b1, b2, b3, b4, hC⟩, hQ, st⟩
theorem callStS (X : Stand p l e R (s.setVm vm0) m args below meth c T locs cells slots) (hx : p.tables.exec = Jvm.exec) (hZ : Z.Warmed39 vm0) (hown : vm0.findClass own = some m.cls) (hS : s.Since vm0 n0) (hk : n0 ≤ h.size) (w1 : (Jvm.Cond.methodLink own index y).before a0 Z = true) (w2 : (Jvm.Cond.static y).before a0 Z = true) (w3 : (Jvm.Cond.initialized y.cls).before a0 Z = true) (w4 : (Jvm.Cond.code y bytes maxL ret).before a0 Z = true)
    (hyc : y.cls ≠ "java/lang/invoke/MethodHandle" ∧ y.cls ≠ "java/lang/invoke/VarHandle") (eT : T.heap = h) (hK : BackSQ l R p e below s vm0 args y 3 W argsL.toArray h k n Z EL Qc)
    (hg : g.method = m) (hsize : g.locals.size = c.maxLocals) (hlen : ∀ sig, parseMethodDescriptor y.desc = some sig → argsL.length = sig.parameters.length) (hstack : g.stack = argsL.reverse ++ rest) (hW : 2 * g.monitorRoom + (rest.map fun v => v.category).sum ≤ W)
    (hdg : decode c.code g.pc = .ok (.invokestatic index, 3)) (hc : cells + k ≤ R.cells) (hs : slots + n ≤ R.slots) :
    ∃ v T' L, AfterS p l e R s m args below meth c Z EL own vm0 h T' (locs ++ L) (cells + k) (slots + n) ∧ Qc v T'.heap L ∧ Steps p.tables e below (T.setTop g) (T'.setTop { g with pc := g.pc + 3, stack := v.toList ++ rest }) := by
  obtain ⟨v, vm1, ⟨T', L', k', n'⟩, -, X', h2, gr, ⟨L, hQ, rfl, rfl, rfl, hC⟩, st⟩ := callSS X hx hown (mvT hZ w1) (mvT hZ w2) (mvT hZ w3) (mvT hZ w4) hyc hK hg hsize hlen hstack hW hdg (fun _ _ => ⟨rfl, eT, hc, hs⟩)
  obtain ⟨b1, b2, b3, b4⟩ := rebS hS (eT ▸ hk) X' h2 gr hZ hown
  exact ⟨v, T', L, ⟨b1, b2, b3, b4, hC⟩, hQ, st⟩
end Calls
section Arrays
variable {p : Program} {l : Launch} {e : Env} {R : Room} {s : State} {m : MethodId} {args : Array Value} {below : List Frame} {meth : Method} {c : Code} {T : State} {locs : List Loc} {cells slots : Nat} {Z : State} {a0 : Array Value} {h : Heap} {g : JFrame} {rest : List Value} {a : Addr} {k : ClassId} {ty : FieldType} {z j x x' : Int32} {i : Nat} {vs : List Value} {d v : Value}
theorem newArr (X : Stand p l e R s m args below meth c T locs cells slots) (hx : p.tables.exec = Jvm.exec) (hZ : Z.Warmed39 s.vm) {aty : ArrayType} (w : (Jvm.Cond.arrayClass (newarray.typeOf aty)).before a0 Z = true) (eT : T.heap = h) (hg : g.method = m) (hd : decode c.code g.pc = .ok (.newarray aty, 2)) {n : Int32} (hs : g.stack = .int n :: rest)
    (hn : ¬ n < 0) {q : Nat} (hq : n.toNatClampNeg = q) (hb : q * 8 ≤ 536870912) (hc : cells + 1 ≤ R.cells) (hl : slots + q ≤ R.slots) :
    ∃ T' h' cA, Stand p l e R s m args below meth c T' locs (cells + 1) (slots + q) ∧ T'.heap = h' ∧ Ext h h' ∧ Arv Z h' h.size cA (newarray.typeOf aty) n (List.replicate q (defaultValue (newarray.typeOf aty))) (defaultValue (newarray.typeOf aty)) ∧
      ∀ target, Steps p.tables e below (T'.setTop { g with pc := g.pc + 2, stack := .ref h.size :: rest }) target → Steps p.tables e below (T.setTop g) target := by
  obtain ⟨T', h', cA, X', e', E', A', st⟩ := newP X hx hZ w eT hg hd hs hn (cap := q) (Nat.le_of_eq hq) hb hc hl
  exact ⟨T', h', cA, X', e', E', (Arv.new A' hn).pad (fun i => by have := pad_rep [] (defaultValue (newarray.typeOf aty)) q i; simpa using this), st⟩
theorem setC (X : Stand p l e R s m args below meth c T locs cells slots) (hx : p.tables.exec = Jvm.exec) (hZ : Z.Warmed39 s.vm) (eT : T.heap = h) (A : Arv Z h a k .char z vs d) (hj : j.toNatClampNeg = i) (h0 : ¬ j < 0) (hjz : j < z) (hi : i < vs.length) (hn : nar .char x = x') (hg : g.method = m) (hs : g.stack = .int x :: .int j :: .ref a :: rest) (hd : decode c.code g.pc = .ok (.castore, 1)) :
    ∃ T' h', Stand p l e R s m args below meth c T' (locs ++ [⟨a, i⟩]) cells slots ∧ T'.heap = h' ∧ Wr h h' a i (.int x') ∧ Arv Z h' a k .char z (vs.set i (.int x')) d ∧ ∀ target, Steps p.tables e below (T'.setTop { g with pc := g.pc + 1, stack := rest }) target → Steps p.tables e below (T.setTop g) target := by
  subst hj hn
  obtain ⟨cl, A1, A2, A3, A4, A5, A6⟩ := A
  obtain ⟨T', h', X', e', W', st⟩ := stC X hx hZ eT A1 (inb_of A3 ⟨h0, hjz⟩) hg hs hd
  exact ⟨T', h', X', e', W', Arv.set A1 A2 A3 A4 A5 A6 (fits_nar_char x) W' _ rfl hi, st⟩
theorem ldB (X : Stand p l e R s m args below meth c T locs cells slots) (hx : p.tables.exec = Jvm.exec) (hZ : Z.Warmed39 s.vm) (eT : T.heap = h) (A : Arv Z h a k .byte z vs d) (hj : j.toNatClampNeg = i) (h0 : ¬ j < 0) (hjz : j < z) (hv : vs.getD i d = v) (hg : g.method = m) (hs : g.stack = .int j :: .ref a :: rest) (hd : decode c.code g.pc = .ok (.baload, 1)) :
    ∀ target, Steps p.tables e below (T.setTop { g with pc := g.pc + 1, stack := v :: rest }) target → Steps p.tables e below (T.setTop g) target := by
  subst hj hv
  obtain ⟨cl, A1, A2, A3, A4, A5, A6⟩ := A
  exact X.baloadBytes hx (by rw [eT]; exact A1.1) (State.isArrayOf_alike hZ.alike A1.2.1) A1.2.2 (inb_of A3 ⟨h0, hjz⟩) (A5.at (inb_of A3 ⟨h0, hjz⟩) rfl) hg hs hd
theorem alen (X : Stand p l e R s m args below meth c T locs cells slots) (hx : p.tables.exec = Jvm.exec) (hZ : Z.Warmed39 s.vm) (eT : T.heap = h) (A : Arv Z h a k ty z vs d) (hg : g.method = m) (hs : g.stack = .ref a :: rest) (hd : decode c.code g.pc = .ok (.arraylength, 1)) :
    ∀ target, Steps p.tables e below (T.setTop { g with pc := g.pc + 1, stack := .int z :: rest }) target → Steps p.tables e below (T.setTop g) target := fun t ht => by
  obtain ⟨cl, A1, A2, A3, A4, A5, A6⟩ := A
  refine X.arraylength hx (by rw [eT]; exact A1.1) (State.isArrayOf_alike hZ.alike A1.2.1) hg hs hd t ?_
  rw [len_of A3 A4]; exact ht
end Arrays
theorem own_nref {C : String} {v : Value} (h : v.isRef = true) : narrow (.object C) v = v := by
  rcases ref_cases h with rfl | ⟨_, rfl⟩ <;> rfl
theorem own_fref {C : String} {v : Value} (h : v.isRef = true) : fits (.object C) v = true := by
  rcases ref_cases h with rfl | ⟨_, rfl⟩ <;> rfl
end Jvm.OwnKit

namespace Jvm.OwnKit
open Jvm Jvm.ClassFile Sem Op Lib Jvm.Free Jvm.Stand Jvm.LawKit Jvm.RoadKit Bundle
section Steps1
variable {p : Program} {l : Launch} {e : Env} {R : Room} {s : State} {m : MethodId} {args : Array Value} {below : List Frame} {meth : Method} {c : Code} {T : State} {locs : List Loc} {cells slots : Nat} {Z : State} {a0 : Array Value} {EL : List (String × Nat)} {h : Heap} {Q : Outcome → State → Prop} {pc q : Nat} {Ls Ls' : Array Slot} {st : List Value} {x y z : Int32} {jx jy jz : Int64} {a : Addr} {v w : Value} {k : Nat} {k4 : Fin 4} {i : Nat} {vs : List Value} {d : Value} {ty : FieldType} {kc : ClassId} {own C O f dd : String} {index : Nat}
theorem aL (X : Stand p l e R s m args below meth c T locs cells slots) (hx : p.tables.exec = Jvm.exec) (hd : decode c.code pc = .ok (.aload_n k4, 1)) (hq : pc + 1 = q) (hl : Ls[k4.val]? = some (.val v)) (hv : v.isRef = true) (kk : Go p.tables e below Q (T.setTop (mkF m q Ls (v :: st)))) : Go p.tables e below Q (T.setTop (mkF m pc Ls st)) := by
  subst hq; exact Go.st (XS.aloadN X.here hx rfl hd hl hv) kk
theorem aLw (X : Stand p l e R s m args below meth c T locs cells slots) (hx : p.tables.exec = Jvm.exec) (hd : decode c.code pc = .ok (.aload k, 2)) (hq : pc + 2 = q) (hl : Ls[k]? = some (.val v)) (hv : v.isRef = true) (kk : Go p.tables e below Q (T.setTop (mkF m q Ls (v :: st)))) : Go p.tables e below Q (T.setTop (mkF m pc Ls st)) := by
  subst hq; exact Go.st (XS.aload X.here hx rfl hd hl hv) kk
theorem iL (X : Stand p l e R s m args below meth c T locs cells slots) (hx : p.tables.exec = Jvm.exec) (hd : decode c.code pc = .ok (.iload_n k4, 1)) (hq : pc + 1 = q) (hl : Ls[k4.val]? = some (.val (.int x))) (kk : Go p.tables e below Q (T.setTop (mkF m q Ls (.int x :: st)))) : Go p.tables e below Q (T.setTop (mkF m pc Ls st)) := by
  subst hq; exact Go.st (XS.iloadN X.here hx rfl hd hl) kk
theorem iLw (X : Stand p l e R s m args below meth c T locs cells slots) (hx : p.tables.exec = Jvm.exec) (hd : decode c.code pc = .ok (.iload k, 2)) (hq : pc + 2 = q) (hl : Ls[k]? = some (.val (.int x))) (kk : Go p.tables e below Q (T.setTop (mkF m q Ls (.int x :: st)))) : Go p.tables e below Q (T.setTop (mkF m pc Ls st)) := by
  subst hq; exact Go.st (XS.iload X.here hx rfl hd hl) kk
theorem sI (X : Stand p l e R s m args below meth c T locs cells slots) (hx : p.tables.exec = Jvm.exec) (hd : decode c.code pc = .ok (.istore_n k4, 1)) (hq : pc + 1 = q) (hl : storeLocals Ls k4.val (.int x) = some Ls') (kk : Go p.tables e below Q (T.setTop (mkF m q Ls' st))) : Go p.tables e below Q (T.setTop (mkF m pc Ls (.int x :: st))) := by
  subst hq; exact Go.st (XS.istoreN X.here hx rfl hd rfl hl) kk
theorem sIw (X : Stand p l e R s m args below meth c T locs cells slots) (hx : p.tables.exec = Jvm.exec) (hd : decode c.code pc = .ok (.istore k, 2)) (hq : pc + 2 = q) (hl : storeLocals Ls k (.int x) = some Ls') (kk : Go p.tables e below Q (T.setTop (mkF m q Ls' st))) : Go p.tables e below Q (T.setTop (mkF m pc Ls (.int x :: st))) := by
  subst hq; exact Go.st (XS.istore X.here hx rfl hd rfl hl) kk
theorem sA (X : Stand p l e R s m args below meth c T locs cells slots) (hx : p.tables.exec = Jvm.exec) (hd : decode c.code pc = .ok (.astore_n k4, 1)) (hq : pc + 1 = q) (hv : v.isRef = true) (hl : storeLocals Ls k4.val v = some Ls') (kk : Go p.tables e below Q (T.setTop (mkF m q Ls' st))) : Go p.tables e below Q (T.setTop (mkF m pc Ls (v :: st))) := by
  subst hq; exact Go.st (XS.astoreN X.here hx rfl hd rfl hv hl) kk
theorem sAw (X : Stand p l e R s m args below meth c T locs cells slots) (hx : p.tables.exec = Jvm.exec) (hd : decode c.code pc = .ok (.astore k, 2)) (hq : pc + 2 = q) (hv : v.isRef = true) (hl : storeLocals Ls k v = some Ls') (kk : Go p.tables e below Q (T.setTop (mkF m q Ls' st))) : Go p.tables e below Q (T.setTop (mkF m pc Ls (v :: st))) := by
  subst hq; exact Go.st (XS.astore X.here hx rfl hd rfl hv hl) kk
theorem cI (X : Stand p l e R s m args below meth c T locs cells slots) (hx : p.tables.exec = Jvm.exec) {j : Int} (hd : decode c.code pc = .ok (.iconst j, 1)) (hq : pc + 1 = q) (hz : Int32.ofInt j = z) (kk : Go p.tables e below Q (T.setTop (mkF m q Ls (.int z :: st)))) : Go p.tables e below Q (T.setTop (mkF m pc Ls st)) := by
  subst hq hz; exact Go.st (XS.iconst X.here hx rfl hd) kk
theorem bI (X : Stand p l e R s m args below meth c T locs cells slots) (hx : p.tables.exec = Jvm.exec) {j : Int} (hd : decode c.code pc = .ok (.bipush j, 2)) (hq : pc + 2 = q) (hz : (Int8.ofInt j).toInt32 = z) (kk : Go p.tables e below Q (T.setTop (mkF m q Ls (.int z :: st)))) : Go p.tables e below Q (T.setTop (mkF m pc Ls st)) := by
  subst hq hz; exact Go.st (XS.bipush X.here hx rfl hd) kk
theorem pI (X : Stand p l e R s m args below meth c T locs cells slots) (hx : p.tables.exec = Jvm.exec) {j : Int} (hd : decode c.code pc = .ok (.sipush j, 3)) (hq : pc + 3 = q) (hz : (Int16.ofInt j).toInt32 = z) (kk : Go p.tables e below Q (T.setTop (mkF m q Ls (.int z :: st)))) : Go p.tables e below Q (T.setTop (mkF m pc Ls st)) := by
  subst hq hz; exact Go.st (XS.sipush X.here hx rfl hd) kk
theorem cN (X : Stand p l e R s m args below meth c T locs cells slots) (hx : p.tables.exec = Jvm.exec) (hd : decode c.code pc = .ok (.aconst_null, 1)) (hq : pc + 1 = q) (kk : Go p.tables e below Q (T.setTop (mkF m q Ls (.null :: st)))) : Go p.tables e below Q (T.setTop (mkF m pc Ls st)) := by
  subst hq; exact Go.st (XS.aconstNull X.here hx rfl hd) kk
theorem g_iadd (X : Stand p l e R s m args below meth c T locs cells slots) (hx : p.tables.exec = Jvm.exec) (hd : decode c.code pc = .ok (.iadd, 1)) (hq : pc + 1 = q) (hz : x + y = z) (kk : Go p.tables e below Q (T.setTop (mkF m q Ls (.int z :: st)))) : Go p.tables e below Q (T.setTop (mkF m pc Ls (.int y :: .int x :: st))) := by
  subst hq hz; exact Go.st (XS.iadd X.here hx rfl hd rfl) kk
theorem g_isub (X : Stand p l e R s m args below meth c T locs cells slots) (hx : p.tables.exec = Jvm.exec) (hd : decode c.code pc = .ok (.isub, 1)) (hq : pc + 1 = q) (hz : x - y = z) (kk : Go p.tables e below Q (T.setTop (mkF m q Ls (.int z :: st)))) : Go p.tables e below Q (T.setTop (mkF m pc Ls (.int y :: .int x :: st))) := by
  subst hq hz; exact Go.st (XS.isub X.here hx rfl hd rfl) kk
theorem g_iand (X : Stand p l e R s m args below meth c T locs cells slots) (hx : p.tables.exec = Jvm.exec) (hd : decode c.code pc = .ok (.iand, 1)) (hq : pc + 1 = q) (hz : x &&& y = z) (kk : Go p.tables e below Q (T.setTop (mkF m q Ls (.int z :: st)))) : Go p.tables e below Q (T.setTop (mkF m pc Ls (.int y :: .int x :: st))) := by
  subst hq hz; exact Go.st (XS.iand X.here hx rfl hd rfl) kk
theorem g_ishl (X : Stand p l e R s m args below meth c T locs cells slots) (hx : p.tables.exec = Jvm.exec) (hd : decode c.code pc = .ok (.ishl, 1)) (hq : pc + 1 = q) (hz : x <<< (y &&& 31) = z) (kk : Go p.tables e below Q (T.setTop (mkF m q Ls (.int z :: st)))) : Go p.tables e below Q (T.setTop (mkF m pc Ls (.int y :: .int x :: st))) := by
  subst hq hz; exact Go.st (XS.ishl X.here hx rfl hd rfl) kk
theorem g_ishr (X : Stand p l e R s m args below meth c T locs cells slots) (hx : p.tables.exec = Jvm.exec) (hd : decode c.code pc = .ok (.ishr, 1)) (hq : pc + 1 = q) (hz : x >>> (y &&& 31) = z) (kk : Go p.tables e below Q (T.setTop (mkF m q Ls (.int z :: st)))) : Go p.tables e below Q (T.setTop (mkF m pc Ls (.int y :: .int x :: st))) := by
  subst hq hz; exact Go.st (XS.ishr X.here hx rfl hd rfl) kk
theorem g_irem (X : Stand p l e R s m args below meth c T locs cells slots) (hx : p.tables.exec = Jvm.exec) (hd : decode c.code pc = .ok (.irem, 1)) (hq : pc + 1 = q) (hy : y ≠ 0) (hz : x % y = z) (kk : Go p.tables e below Q (T.setTop (mkF m q Ls (.int z :: st)))) : Go p.tables e below Q (T.setTop (mkF m pc Ls (.int y :: .int x :: st))) := by
  subst hq hz; exact Go.st (iremM X hx rfl hd rfl hy) kk
theorem g_i2c (X : Stand p l e R s m args below meth c T locs cells slots) (hx : p.tables.exec = Jvm.exec) (hd : decode c.code pc = .ok (.i2c, 1)) (hq : pc + 1 = q) (hz : x.toUInt32.toUInt16.toUInt32.toInt32 = z) (kk : Go p.tables e below Q (T.setTop (mkF m q Ls (.int z :: st)))) : Go p.tables e below Q (T.setTop (mkF m pc Ls (.int x :: st))) := by
  subst hq hz; exact Go.st (XS.i2c X.here hx rfl hd rfl) kk
theorem g_iinc (X : Stand p l e R s m args below meth c T locs cells slots) (hx : p.tables.exec = Jvm.exec) {j : Int} (hd : decode c.code pc = .ok (.iinc k j, 3)) (hq : pc + 3 = q) (hl : Ls[k]? = some (.val (.int x))) (hz : x + Int32.ofInt j = z) (hl2 : storeLocals Ls k (.int z) = some Ls') (kk : Go p.tables e below Q (T.setTop (mkF m q Ls' st))) : Go p.tables e below Q (T.setTop (mkF m pc Ls st)) := by
  subst hq hz; exact Go.st (XS.iinc X.here hx rfl hd hl hl2) kk
theorem g_dup (X : Stand p l e R s m args below meth c T locs cells slots) (hx : p.tables.exec = Jvm.exec) (hd : decode c.code pc = .ok (.dup, 1)) (hq : pc + 1 = q) (hc : v.category = 1) (kk : Go p.tables e below Q (T.setTop (mkF m q Ls (v :: v :: st)))) : Go p.tables e below Q (T.setTop (mkF m pc Ls (v :: st))) := by
  subst hq; exact Go.st (XS.dup X.here hx rfl hd rfl hc) kk
theorem g_pop (X : Stand p l e R s m args below meth c T locs cells slots) (hx : p.tables.exec = Jvm.exec) (hd : decode c.code pc = .ok (.pop, 1)) (hq : pc + 1 = q) (hc : v.category = 1) (kk : Go p.tables e below Q (T.setTop (mkF m q Ls st))) : Go p.tables e below Q (T.setTop (mkF m pc Ls (v :: st))) := by
  subst hq; exact Go.st (XS.pop X.here hx rfl hd rfl hc) kk
theorem g_goto (X : Stand p l e R s m args below meth c T locs cells slots) (hx : p.tables.exec = Jvm.exec) {j : Int} (hd : decode c.code pc = .ok (.goto j, 3)) (ho : 0 ≤ (pc : Int) + j) (hp : ((pc : Int) + j).toNat = q) (kk : Go p.tables e below Q (T.setTop (mkF m q Ls st))) : Go p.tables e below Q (T.setTop (mkF m pc Ls st)) := by
  exact Go.st (XS.goto X.here hx rfl rfl hd ho hp) kk
theorem ifY (X : Stand p l e R s m args below meth c T locs cells slots) (hx : p.tables.exec = Jvm.exec) {j : Int} {cd : ClassFile.Cond} (hd : decode c.code pc = .ok (.ifCond cd j, 3)) (ho : 0 ≤ (pc : Int) + j) (hp : ((pc : Int) + j).toNat = q) (hc : ifCond.holds cd x = true) (kk : Go p.tables e below Q (T.setTop (mkF m q Ls st))) : Go p.tables e below Q (T.setTop (mkF m pc Ls (.int x :: st))) := by
  exact Go.st (XS.ifYes X.here hx rfl rfl hd rfl hc ho hp) kk
theorem ifN (X : Stand p l e R s m args below meth c T locs cells slots) (hx : p.tables.exec = Jvm.exec) {j : Int} {cd : ClassFile.Cond} (hd : decode c.code pc = .ok (.ifCond cd j, 3)) (hq : pc + 3 = q) (hc : ifCond.holds cd x = false) (kk : Go p.tables e below Q (T.setTop (mkF m q Ls st))) : Go p.tables e below Q (T.setTop (mkF m pc Ls (.int x :: st))) := by
  subst hq; exact Go.st (XS.ifNo X.here hx rfl hd rfl hc) kk
theorem icY (X : Stand p l e R s m args below meth c T locs cells slots) (hx : p.tables.exec = Jvm.exec) {j : Int} {cd : ClassFile.Cond} (hd : decode c.code pc = .ok (.if_icmp cd j, 3)) (ho : 0 ≤ (pc : Int) + j) (hp : ((pc : Int) + j).toNat = q) (hc : if_icmp.holds cd x y = true) (kk : Go p.tables e below Q (T.setTop (mkF m q Ls st))) : Go p.tables e below Q (T.setTop (mkF m pc Ls (.int y :: .int x :: st))) := by
  exact Go.st (XS.icmpYes X.here hx rfl rfl hd rfl hc ho hp) kk
theorem icN (X : Stand p l e R s m args below meth c T locs cells slots) (hx : p.tables.exec = Jvm.exec) {j : Int} {cd : ClassFile.Cond} (hd : decode c.code pc = .ok (.if_icmp cd j, 3)) (hq : pc + 3 = q) (hc : if_icmp.holds cd x y = false) (kk : Go p.tables e below Q (T.setTop (mkF m q Ls st))) : Go p.tables e below Q (T.setTop (mkF m pc Ls (.int y :: .int x :: st))) := by
  subst hq; exact Go.st (XS.icmpNo X.here hx rfl hd rfl hc) kk
theorem nlN (X : Stand p l e R s m args below meth c T locs cells slots) (hx : p.tables.exec = Jvm.exec) {j : Int} (hd : decode c.code pc = .ok (.ifnull j, 3)) (hq : pc + 3 = q) (kk : Go p.tables e below Q (T.setTop (mkF m q Ls st))) : Go p.tables e below Q (T.setTop (mkF m pc Ls (.ref a :: st))) := by
  subst hq; exact Go.st (XS.ifnullNo X.here hx rfl hd rfl) kk
theorem nnY (X : Stand p l e R s m args below meth c T locs cells slots) (hx : p.tables.exec = Jvm.exec) {j : Int} (hd : decode c.code pc = .ok (.ifnonnull j, 3)) (ho : 0 ≤ (pc : Int) + j) (hp : ((pc : Int) + j).toNat = q) (kk : Go p.tables e below Q (T.setTop (mkF m q Ls st))) : Go p.tables e below Q (T.setTop (mkF m pc Ls (.ref a :: st))) := by
  exact Go.st (XS.ifnonnullYes X.here hx rfl rfl hd rfl ho hp) kk
theorem nnN (X : Stand p l e R s m args below meth c T locs cells slots) (hx : p.tables.exec = Jvm.exec) {j : Int} (hd : decode c.code pc = .ok (.ifnonnull j, 3)) (hq : pc + 3 = q) (kk : Go p.tables e below Q (T.setTop (mkF m q Ls st))) : Go p.tables e below Q (T.setTop (mkF m pc Ls (.null :: st))) := by
  subst hq; exact Go.st (XS.ifnonnullNo X.here hx rfl hd rfl) kk
theorem g_acmp (X : Stand p l e R s m args below meth c T locs cells slots) (hx : p.tables.exec = Jvm.exec) {j : Int} {cd : ACond} (hd : decode c.code pc = .ok (.if_acmp cd j, 3)) (h1 : v.isRef = true) (h2 : w.isRef = true) {same : Bool} (hs : decide (v = w) = same) (ho : 0 ≤ (pc : Int) + j) (hp : q = if acV cd same = true then ((pc : Int) + j).toNat else pc + 3) (kk : Go p.tables e below Q (T.setTop (mkF m q Ls st))) : Go p.tables e below Q (T.setTop (mkF m pc Ls (w :: v :: st))) := by
  exact Go.st (acmp X hx rfl h1 h2 rfl hd rfl hs ho hp) kk
theorem g_new (X : Stand p l e R s m args below meth c T locs cells slots) (hx : p.tables.exec = Jvm.exec) (hZ : Z.Warmed39 s.vm) (hown : s.vm.findClass own = some m.cls) (w1 : (Jvm.Cond.classLink own index C).before a0 Z = true) (w2 : (Jvm.Cond.instantiable C k).before a0 Z = true) (w3 : (Jvm.Cond.initialized C).before a0 Z = true) (hc : cells + 1 ≤ R.cells) (hl : slots + k ≤ R.slots) (eT : T.heap = h) (hd : decode c.code pc = .ok (.new index, 3)) (hq : pc + 3 = q) (kk : ∀ (T' : State) (h' : Heap) (b : Addr), b = h.size → Stand p l e R s m args below meth c T' locs (cells + 1) (slots + k) → T'.heap = h' → Ext h h' → Exa Z h' b C → (∀ {O nm d : String} {ty : FieldType}, Laid Z a0 C O nm d → parseFieldDescriptor d = some ty → Fld Z h' b O nm d (defaultValue ty)) → Go p.tables e below Q (T'.setTop (mkF m q Ls (.ref b :: st)))) : Go p.tables e below Q (T.setTop (mkF m pc Ls st)) := by
  subst hq
  obtain ⟨T', h', X', e', E', A', D', -, st'⟩ := newO X hx hZ hown w1 w2 w3 eT (g := mkF m pc Ls st) rfl hd hc hl
  exact Go.to st' (kk T' h' _ rfl X' e' E' A' D')
theorem g_newA (X : Stand p l e R s m args below meth c T locs cells slots) (hx : p.tables.exec = Jvm.exec) (hZ : Z.Warmed39 s.vm) {aty : ArrayType} (w1 : (Jvm.Cond.arrayClass (newarray.typeOf aty)).before a0 Z = true) (hn : ¬ z < 0) {n : Nat} (hk : z.toNatClampNeg = n) (hb : n * 8 ≤ 536870912) (hc : cells + 1 ≤ R.cells) (hl : slots + n ≤ R.slots) (eT : T.heap = h) (hd : decode c.code pc = .ok (.newarray aty, 2)) (hq : pc + 2 = q) (kk : ∀ (T' : State) (h' : Heap) (kc : ClassId) (b : Addr), b = h.size → Stand p l e R s m args below meth c T' locs (cells + 1) (slots + n) → T'.heap = h' → Ext h h' → Arv Z h' b kc (newarray.typeOf aty) z (List.replicate n (defaultValue (newarray.typeOf aty))) (defaultValue (newarray.typeOf aty)) → Go p.tables e below Q (T'.setTop (mkF m q Ls (.ref b :: st)))) : Go p.tables e below Q (T.setTop (mkF m pc Ls (.int z :: st))) := by
  subst hq
  obtain ⟨T', h', kc, X', e', E', V', st'⟩ := newArr X hx hZ w1 eT (g := mkF m pc Ls (.int z :: st)) rfl hd rfl hn hk hb hc hl
  exact Go.to st' (kk T' h' kc _ rfl X' e' E' V')
theorem g_stC (X : Stand p l e R s m args below meth c T locs cells slots) (hx : p.tables.exec = Jvm.exec) (hZ : Z.Warmed39 s.vm) (A : Arv Z h a kc .char z vs d) {j : Int32} (hj : j.toNatClampNeg = i) (h0 : ¬ j < 0) (hjz : j < z) (hi : i < vs.length) (hn : nar .char x = y) (eT : T.heap = h) (hd : decode c.code pc = .ok (.castore, 1)) (hq : pc + 1 = q) (kk : ∀ (T' : State) (h' : Heap), Stand p l e R s m args below meth c T' (locs ++ [⟨a, i⟩]) cells slots → T'.heap = h' → Wr h h' a i (.int y) → Arv Z h' a kc .char z (vs.set i (.int y)) d → Go p.tables e below Q (T'.setTop (mkF m q Ls st))) : Go p.tables e below Q (T.setTop (mkF m pc Ls (.int x :: .int j :: .ref a :: st))) := by
  subst hq
  obtain ⟨T', h', X', e', W', V', st'⟩ := setC X hx hZ eT A hj h0 hjz hi hn (g := mkF m pc Ls (.int x :: .int j :: .ref a :: st)) rfl rfl hd
  exact Go.to st' (kk T' h' X' e' W' V')
theorem g_ldB (X : Stand p l e R s m args below meth c T locs cells slots) (hx : p.tables.exec = Jvm.exec) (hZ : Z.Warmed39 s.vm) (A : Arv Z h a kc .byte z vs d) {j : Int32} (hj : j.toNatClampNeg = i) (h0 : ¬ j < 0) (hjz : j < z) (hv : vs.getD i d = v) (eT : T.heap = h) (hd : decode c.code pc = .ok (.baload, 1)) (hq : pc + 1 = q) (kk : Go p.tables e below Q (T.setTop (mkF m q Ls (v :: st)))) : Go p.tables e below Q (T.setTop (mkF m pc Ls (.int j :: .ref a :: st))) := by
  subst hq
  exact Go.to (ldB X hx hZ eT A hj h0 hjz hv (g := mkF m pc Ls (.int j :: .ref a :: st)) rfl rfl hd) kk
theorem g_len (X : Stand p l e R s m args below meth c T locs cells slots) (hx : p.tables.exec = Jvm.exec) (hZ : Z.Warmed39 s.vm) (A : Arv Z h a kc ty z vs d) (eT : T.heap = h) (hd : decode c.code pc = .ok (.arraylength, 1)) (hq : pc + 1 = q) (kk : Go p.tables e below Q (T.setTop (mkF m q Ls (.int z :: st)))) : Go p.tables e below Q (T.setTop (mkF m pc Ls (.ref a :: st))) := by
  subst hq
  exact Go.to (alen X hx hZ eT A (g := mkF m pc Ls (.ref a :: st)) rfl rfl hd) kk
theorem g_getF (X : Stand p l e R s m args below meth c T locs cells slots) (hx : p.tables.exec = Jvm.exec) (hZ : Z.Warmed39 s.vm) (hown : s.vm.findClass own = some m.cls) {R0 host : String} (wl : (Jvm.Cond.fieldLink own index R0 f dd).before a0 Z = true ∨ (Jvm.Cond.fieldLinkNest own index R0 f dd host).before a0 Z = true) (via : Via Z R0 O f dd) (F : Fld Z h a O f dd v) (eT : T.heap = h) (hd : decode c.code pc = .ok (.getfield index, 3)) (hq : pc + 3 = q) (kk : ∀ (T' : State), Stand p l e R s m args below meth c T' locs cells slots → T'.heap = h → Go p.tables e below Q (T'.setTop (mkF m q Ls (v :: st)))) : Go p.tables e below Q (T.setTop (mkF m pc Ls (.ref a :: st))) := by
  subst hq
  obtain ⟨T', X', e', st'⟩ := getF X hx hZ hown wl via eT F (g := mkF m pc Ls (.ref a :: st)) rfl rfl hd
  exact Go.to st' (kk T' X' e')
theorem g_putF (X : Stand p l e R s m args below meth c T locs cells slots) (hx : p.tables.exec = Jvm.exec) (hZ : Z.Warmed39 s.vm) (hown : s.vm.findClass own = some m.cls) {R0 host : String} {kk2 : Nat} (wl : (Jvm.Cond.fieldLink own index R0 f dd).before a0 Z = true ∨ (Jvm.Cond.fieldLinkNest own index R0 f dd host).before a0 Z = true) (via : Via Z R0 O f dd) {old : Value} (F : Fld Z h a O f dd old) (E : Exa Z h a C) (L : (Jvm.Cond.lays C O f dd).before a0 Z = true ∨ ((Jvm.Cond.laysFinal C O f dd).before a0 Z = true ∧ own = O ∧ meth.name = "<init>")) (wi : (Jvm.Cond.instantiable C kk2).before a0 Z = true) (hty : parseFieldDescriptor dd = some ty) (hn : narrow ty v = v) (hf : fits ty v = true) (eT : T.heap = h) (hd : decode c.code pc = .ok (.putfield index, 3)) (hq : pc + 3 = q) (kk : ∀ (T' : State) (h' : Heap), Stand p l e R s m args below meth c T' (locs ++ [⟨a, Jvm.RoadKit.slotOf Z O f dd⟩]) cells slots → T'.heap = h' → Wr h h' a (Jvm.RoadKit.slotOf Z O f dd) v → Go p.tables e below Q (T'.setTop (mkF m q Ls st))) : Go p.tables e below Q (T.setTop (mkF m pc Ls (v :: .ref a :: st))) := by
  subst hq
  obtain ⟨T', h', X', e', W', st'⟩ := putF X hx hZ hown wl via eT F E L wi hty hn hf (g := mkF m pc Ls (v :: .ref a :: st)) rfl rfl hd
  exact Go.to st' (kk T' h' X' e' W')
theorem g_getS (X : Stand p l e R s m args below meth c T locs cells slots) (hx : p.tables.exec = Jvm.exec) (hZ : Z.Warmed39 s.vm) (hown : s.vm.findClass own = some m.cls) {R0 host : String} (wl : (Jvm.Cond.fieldLink own index R0 f dd).before a0 Z = true ∨ (Jvm.Cond.fieldLinkNest own index R0 f dd host).before a0 Z = true) (via : Via Z R0 O f dd) (F : Sta Z h O f dd v) (eT : T.heap = h) (hd : decode c.code pc = .ok (.getstatic index, 3)) (hq : pc + 3 = q) (kk : ∀ (T' : State), Stand p l e R s m args below meth c T' locs cells slots → T'.heap = h → Go p.tables e below Q (T'.setTop (mkF m q Ls (v :: st)))) : Go p.tables e below Q (T.setTop (mkF m pc Ls st)) := by
  subst hq
  obtain ⟨T', X', e', st'⟩ := getS2 X hx hZ hown wl via eT F (g := mkF m pc Ls st) rfl hd
  exact Go.to st' (kk T' X' e')
theorem g_cast (X : Stand p l e R s m args below meth c T locs cells slots) (hx : p.tables.exec = Jvm.exec) (hZ : Z.Warmed39 s.vm) (hown : s.vm.findClass own = some m.cls) {K : String} (w1 : (Jvm.Cond.classLink own index K).before a0 Z = true) (I : Ins Z h a K true) (eT : T.heap = h) (hd : decode c.code pc = .ok (.checkcast index, 3)) (hq : pc + 3 = q) (kk : ∀ (T' : State), Stand p l e R s m args below meth c T' locs cells slots → T'.heap = h → Go p.tables e below Q (T'.setTop (mkF m q Ls (.ref a :: st)))) : Go p.tables e below Q (T.setTop (mkF m pc Ls (.ref a :: st))) := by
  subst hq
  obtain ⟨T', X', e', st'⟩ := castY X hx hZ hown w1 eT I (g := mkF m pc Ls (.ref a :: st)) rfl rfl hd
  exact Go.to st' (kk T' X' e')
theorem g_insY (X : Stand p l e R s m args below meth c T locs cells slots) (hx : p.tables.exec = Jvm.exec) (hZ : Z.Warmed39 s.vm) (hown : s.vm.findClass own = some m.cls) {K : String} (w1 : (Jvm.Cond.classLink own index K).before a0 Z = true) (I : Ins Z h a K true) (eT : T.heap = h) (hd : decode c.code pc = .ok (.instanceof index, 3)) (hq : pc + 3 = q) (kk : ∀ (T' : State), Stand p l e R s m args below meth c T' locs cells slots → T'.heap = h → Go p.tables e below Q (T'.setTop (mkF m q Ls (.int 1 :: st)))) : Go p.tables e below Q (T.setTop (mkF m pc Ls (.ref a :: st))) := by
  subst hq
  obtain ⟨T', X', e', st'⟩ := instY X hx hZ hown w1 eT I (g := mkF m pc Ls (.ref a :: st)) rfl rfl hd
  exact Go.to st' (kk T' X' e')
theorem g_init0 (X : Stand p l e R s m args below meth c T locs cells slots) (hx : p.tables.exec = Jvm.exec) (hZ : Z.Warmed39 s.vm) (hown : s.vm.findClass own = some m.cls) (w1 : (Jvm.Cond.methodLink own index Lib.objectInit).before a0 Z = true) (w2 : (Jvm.Cond.instanceMethod Lib.objectInit).before a0 Z = true) (w3 : (Jvm.Cond.code Lib.objectInit ⟨#[0xb1]⟩ 1 none).before a0 Z = true) (hsize : Ls.size = c.maxLocals) (hf : 1 ≤ R.frames) {W : Nat} (hW : (st.map fun v => v.category).sum ≤ W) (hl : W + 12 ≤ R.locals) (eT : T.heap = h) (hd : decode c.code pc = .ok (.invokespecial index, 3)) (hq : pc + 3 = q) (kk : ∀ (T' : State), Stand p l e R s m args below meth c T' locs cells slots → T'.heap = h → Go p.tables e below Q (T'.setTop (mkF m q Ls st))) : Go p.tables e below Q (T.setTop (mkF m pc Ls (.ref a :: st))) := by
  subst hq
  obtain ⟨T', X', e', st'⟩ := initO X hx hZ hown w1 w2 w3 eT (g := mkF m pc Ls (.ref a :: st)) rfl hsize rfl hd hf (W := W) (by show 2 * 0 + _ ≤ _; omega) hl
  exact Go.to st' (kk T' X' e')
theorem g_ldc {vm0 : Vm} (X : Stand p l e R (s.setVm vm0) m args below meth c T locs cells slots) (hx : p.tables.exec = Jvm.exec) (hZ : Z.Warmed39 vm0) (hown : vm0.findClass own = some m.cls) {text : String} (w : (Jvm.Cond.stringLink own index text).before a0 Z = true) (wS : ∀ a ∈ Bundle.stringAtoms, a.before a0 Z = true) {k0 : Nat} (hS : s.Since vm0 k0) (hk : k0 ≤ h.size) (hEL : EW Z a0 EL) (hmem : (own, index) ∈ EL) (H : CHv Z EL vm0 h) (ht : (∀ c ∈ text.toList, c.toNat < 256) ∧ text.toList.map (fun c => Value.int (Jvm.Lit.byteI c.toNat.toUInt16)) = vs) (hz : ¬ z < 0) (hl : z.toNatClampNeg = vs.length) {n : Nat} (hn : 4 * text.toList.length ≤ n) (hbig : n ≤ 536870912) (hc : cells + 2 ≤ R.cells) (hl' : slots + (n + 4) ≤ R.slots) (eT : T.heap = h) (hd : decode c.code pc = .ok (.ldc index, 2)) (hq : pc + 2 = q) (kk : ∀ (a : Addr) (T' : State) (h' : Heap) (k1 : Nat) (b : Addr) (k : ClassId), Stand p l e R (s.setVm T'.vm) m args below meth c T' locs (cells + 2) (slots + (n + 4)) → T'.heap = h' → Ext h h' → s.Since T'.vm k1 → k1 ≤ h'.size → Z.Warmed39 T'.vm → T'.vm.findClass own = some m.cls → Exa Z h' a "java/lang/String" → Fld Z h' a "java/lang/String" "coder" "B" (.int 0) → Fld Z h' a "java/lang/String" "value" "[B" (.ref b) → Arv Z h' b k .byte z vs (.int 0) → a < h'.size → b < h'.size → CHr Z EL vm0 h T'.vm h' → (∀ x, Safe Z EL T'.vm h' x → x ≠ a ∧ x ≠ b) → Go p.tables e below Q (T'.setTop (mkF m q Ls (.ref a :: st)))) : Go p.tables e below Q (T.setTop (mkF m pc Ls st)) := by
  subst hq
  obtain ⟨a, T', h', k1, b, k, X', e', E', S', hk', hZ', ho', A', F1, F2, V', l1, l2, R', -, sn, st'⟩ := ldcCH X hx hZ hown w wS eT hS hk hEL hmem H ht hz hl (g := mkF m pc Ls st) rfl hd hn hbig hc hl'
  exact Go.to st' (kk a T' h' k1 b k X' e' E' S' hk' hZ' ho' A' F1 F2 V' l1 l2 R' sn)
theorem g_ldcI (X : Stand p l e R s m args below meth c T locs cells slots) (hx : p.tables.exec = Jvm.exec) {a1 : Array Value} (hZ : Z.Warmed39 s.vm) (hown : s.vm.findClass own = some m.cls) (w : (Jvm.Cond.constant own index z).before a0 Z = true) (hd : decode c.code pc = .ok (.ldc index, 2)) (hq : pc + 2 = q) (kk : Go p.tables e below Q (T.setTop (mkF m q Ls (.int z :: st)))) : Go p.tables e below Q (T.setTop (mkF m pc Ls st)) := by
  subst hq; exact Go.to (X.ldcInt hx hown (mvT hZ w) (g := mkF m pc Ls st) rfl hd) kk
theorem g_sp {y : MethodName} {bytes : ByteArray} {maxL : Nat} {W nk ns : Nat} {argsL st0 : List Value} {Qc : Option Value → Heap → List Loc → Prop} (X : Stand p l e R s m args below meth c T locs cells slots) (hx : p.tables.exec = Jvm.exec) (hZ : Z.Warmed39 s.vm) (hown : s.vm.findClass own = some m.cls) (w1 : (Jvm.Cond.methodLink own index y).before a0 Z = true) (w2 : (Jvm.Cond.instanceMethod y).before a0 Z = true) (w3 : (Jvm.Cond.code y bytes maxL none).before a0 Z = true) (hy1 : y.name = "<init>") (hyc : y.cls ≠ "java/lang/invoke/MethodHandle" ∧ y.cls ≠ "java/lang/invoke/VarHandle") (eT : T.heap = h) (hK : BackQ l R p e below s args y 3 W ((.ref a :: argsL).toArray) h nk ns Qc) (hsize : Ls.size = c.maxLocals) (hlen : ∀ sig, parseMethodDescriptor y.desc = some sig → argsL.length = sig.parameters.length) (hst : st0 = argsL.reverse ++ .ref a :: st) (hW : (st.map fun v => v.category).sum ≤ W) (hd : decode c.code pc = .ok (.invokespecial index, 3)) (hq : pc + 3 = q) (hc : cells + nk ≤ R.cells) (hs : slots + ns ≤ R.slots) (kk : ∀ (v : Option Value) (T' : State) (L : List Loc), Stand p l e R s m args below meth c T' (locs ++ L) (cells + nk) (slots + ns) → Qc v T'.heap L → Go p.tables e below Q (T'.setTop (mkF m q Ls (v.toList ++ st)))) : Go p.tables e below Q (T.setTop (mkF m pc Ls st0)) := by
  subst hq
  obtain ⟨v, T', L, X', hQ, st'⟩ := callSp X hx hZ hown hy1 w1 w2 w3 hyc eT hK (g := mkF m pc Ls st0) rfl hsize hlen hst (by show 2 * 0 + _ ≤ _; omega) hd hc hs
  exact Go.run st' (kk v T' L X' hQ)
theorem g_st {y : MethodName} {bytes : ByteArray} {maxL : Nat} {ret : Option FieldType} {W nk ns : Nat} {argsL st0 : List Value} {Qc : Option Value → Heap → List Loc → Prop} (X : Stand p l e R s m args below meth c T locs cells slots) (hx : p.tables.exec = Jvm.exec) (hZ : Z.Warmed39 s.vm) (hown : s.vm.findClass own = some m.cls) (w1 : (Jvm.Cond.methodLink own index y).before a0 Z = true) (w2 : (Jvm.Cond.static y).before a0 Z = true) (w3 : (Jvm.Cond.initialized y.cls).before a0 Z = true) (w4 : (Jvm.Cond.code y bytes maxL ret).before a0 Z = true) (hyc : y.cls ≠ "java/lang/invoke/MethodHandle" ∧ y.cls ≠ "java/lang/invoke/VarHandle") (eT : T.heap = h) (hK : BackQ l R p e below s args y 3 W (argsL.toArray) h nk ns Qc) (hsize : Ls.size = c.maxLocals) (hlen : ∀ sig, parseMethodDescriptor y.desc = some sig → argsL.length = sig.parameters.length) (hst : st0 = argsL.reverse ++ st) (hW : (st.map fun v => v.category).sum ≤ W) (hd : decode c.code pc = .ok (.invokestatic index, 3)) (hq : pc + 3 = q) (hc : cells + nk ≤ R.cells) (hs : slots + ns ≤ R.slots) (kk : ∀ (v : Option Value) (T' : State) (L : List Loc), Stand p l e R s m args below meth c T' (locs ++ L) (cells + nk) (slots + ns) → Qc v T'.heap L → Go p.tables e below Q (T'.setTop (mkF m q Ls (v.toList ++ st)))) : Go p.tables e below Q (T.setTop (mkF m pc Ls st0)) := by
  subst hq
  obtain ⟨v, T', L, X', hQ, st'⟩ := callSt X hx hZ hown w1 w2 w3 w4 hyc eT hK (g := mkF m pc Ls st0) rfl hsize hlen hst (by show 2 * 0 + _ ≤ _; omega) hd hc hs
  exact Go.run st' (kk v T' L X' hQ)
theorem g_vi {y z : MethodName} {W nk ns : Nat} {argsL st0 : List Value} {Qc : Option Value → Heap → List Loc → Prop} (X : Stand p l e R s m args below meth c T locs cells slots) (hx : p.tables.exec = Jvm.exec) (hZ : Z.Warmed39 s.vm) (hown : s.vm.findClass own = some m.cls) (w1 : (Jvm.Cond.methodLink own index y).before a0 Z = true) (w2 : (Jvm.Cond.declares y).before a0 Z = true) (nf : NotFace s y) (w4 : (Jvm.Cond.selects C y z).before a0 Z = true) (w5 : (Jvm.Cond.instanceMethod z).before a0 Z = true) (hyc : y.cls ≠ "java/lang/invoke/MethodHandle" ∧ y.cls ≠ "java/lang/invoke/VarHandle") (E : Exa Z h a C) (eT : T.heap = h) (hK : BackQ l R p e below s args z 3 W ((.ref a :: argsL).toArray) h nk ns Qc) (hsize : Ls.size = c.maxLocals) (hlen : ∀ sig, parseMethodDescriptor y.desc = some sig → argsL.length = sig.parameters.length) (hst : st0 = argsL.reverse ++ .ref a :: st) (hW : (st.map fun v => v.category).sum ≤ W) (hd : decode c.code pc = .ok (.invokevirtual index, 3)) (hq : pc + 3 = q) (hc : cells + nk ≤ R.cells) (hs : slots + ns ≤ R.slots) (kk : ∀ (v : Option Value) (T' : State) (L : List Loc), Stand p l e R s m args below meth c T' (locs ++ L) (cells + nk) (slots + ns) → Qc v T'.heap L → Go p.tables e below Q (T'.setTop (mkF m q Ls (v.toList ++ st)))) : Go p.tables e below Q (T.setTop (mkF m pc Ls st0)) := by
  subst hq
  obtain ⟨v, T', L, X', hQ, st'⟩ := callVi X hx hZ hown w1 w2 nf w4 w5 hyc eT E hK (g := mkF m pc Ls st0) rfl hsize hlen hst (by show 2 * 0 + _ ≤ _; omega) hd hc hs
  exact Go.run st' (kk v T' L X' hQ)
theorem g_vu {y z : MethodName} {W nk ns : Nat} {argsL st0 : List Value} {Qc : Option Value → Heap → List Loc → Prop} (X : Stand p l e R s m args below meth c T locs cells slots) (hx : p.tables.exec = Jvm.exec) (hZ : Z.Warmed39 s.vm) (hown : s.vm.findClass own = some m.cls) {owner : String} (w1 : (Jvm.Cond.methodLink own index y).before a0 Z = true) (w2 : (Jvm.Cond.sameMethod y.cls owner y.name y.desc).before a0 Z = true) (w3 : (Jvm.Cond.declares ⟨owner, y.name, y.desc⟩).before a0 Z = true) (hyc : owner ≠ "java/lang/invoke/MethodHandle" ∧ owner ≠ "java/lang/invoke/VarHandle") (w4 : (Jvm.Cond.selects C y z).before a0 Z = true) (w5 : (Jvm.Cond.instanceMethod z).before a0 Z = true) (E : Exa Z h a C) (eT : T.heap = h) (hK : BackQ l R p e below s args z 3 W ((.ref a :: argsL).toArray) h nk ns Qc) (hsize : Ls.size = c.maxLocals) (hlen : ∀ sig, parseMethodDescriptor y.desc = some sig → argsL.length = sig.parameters.length) (hst : st0 = argsL.reverse ++ .ref a :: st) (hW : (st.map fun v => v.category).sum ≤ W) (hd : decode c.code pc = .ok (.invokevirtual index, 3)) (hq : pc + 3 = q) (hc : cells + nk ≤ R.cells) (hs : slots + ns ≤ R.slots) (kk : ∀ (v : Option Value) (T' : State) (L : List Loc), Stand p l e R s m args below meth c T' (locs ++ L) (cells + nk) (slots + ns) → Qc v T'.heap L → Go p.tables e below Q (T'.setTop (mkF m q Ls (v.toList ++ st)))) : Go p.tables e below Q (T.setTop (mkF m pc Ls st0)) := by
  subst hq
  obtain ⟨v, T', L, X', hQ, st'⟩ := callVu X hx hZ hown w1 w2 w3 hyc w4 w5 eT E hK (g := mkF m pc Ls st0) rfl hsize hlen hst (by show 2 * 0 + _ ≤ _; omega) hd hc hs
  exact Go.run st' (kk v T' L X' hQ)
theorem g_spS {vm0 : Vm} {y : MethodName} {bytes : ByteArray} {maxL : Nat} {W nk ns : Nat} {argsL st0 : List Value} {Qc : Option Value → Heap → List Loc → Prop} (X : Stand p l e R (s.setVm vm0) m args below meth c T locs cells slots) (hx : p.tables.exec = Jvm.exec) (hZ : Z.Warmed39 vm0) (hown : vm0.findClass own = some m.cls) {n0 : Nat} (hS : s.Since vm0 n0) (hk : n0 ≤ h.size) (w1 : (Jvm.Cond.methodLink own index y).before a0 Z = true) (w2 : (Jvm.Cond.instanceMethod y).before a0 Z = true) (w3 : (Jvm.Cond.code y bytes maxL none).before a0 Z = true) (hy1 : y.name = "<init>") (hyc : y.cls ≠ "java/lang/invoke/MethodHandle" ∧ y.cls ≠ "java/lang/invoke/VarHandle") (eT : T.heap = h) (hK : BackSQ l R p e below s vm0 args y 3 W ((.ref a :: argsL).toArray) h nk ns Z EL Qc) (hsize : Ls.size = c.maxLocals) (hlen : ∀ sig, parseMethodDescriptor y.desc = some sig → argsL.length = sig.parameters.length) (hst : st0 = argsL.reverse ++ .ref a :: st) (hW : (st.map fun v => v.category).sum ≤ W) (hd : decode c.code pc = .ok (.invokespecial index, 3)) (hq : pc + 3 = q) (hc : cells + nk ≤ R.cells) (hs : slots + ns ≤ R.slots) (kk : ∀ (v : Option Value) (T' : State) (L : List Loc), AfterS p l e R s m args below meth c Z EL own vm0 h T' (locs ++ L) (cells + nk) (slots + ns) → Qc v T'.heap L → Go p.tables e below Q (T'.setTop (mkF m q Ls (v.toList ++ st)))) : Go p.tables e below Q (T.setTop (mkF m pc Ls st0)) := by
  subst hq
  obtain ⟨v, T', L, X', hQ, st'⟩ := callSpS X hx hZ hown hS hk hy1 w1 w2 w3 hyc eT hK (g := mkF m pc Ls st0) rfl hsize hlen hst (by show 2 * 0 + _ ≤ _; omega) hd hc hs
  exact Go.run st' (kk v T' L X' hQ)
theorem g_stS {vm0 : Vm} {y : MethodName} {bytes : ByteArray} {maxL : Nat} {ret : Option FieldType} {W nk ns : Nat} {argsL st0 : List Value} {Qc : Option Value → Heap → List Loc → Prop} (X : Stand p l e R (s.setVm vm0) m args below meth c T locs cells slots) (hx : p.tables.exec = Jvm.exec) (hZ : Z.Warmed39 vm0) (hown : vm0.findClass own = some m.cls) {n0 : Nat} (hS : s.Since vm0 n0) (hk : n0 ≤ h.size) (w1 : (Jvm.Cond.methodLink own index y).before a0 Z = true) (w2 : (Jvm.Cond.static y).before a0 Z = true) (w3 : (Jvm.Cond.initialized y.cls).before a0 Z = true) (w4 : (Jvm.Cond.code y bytes maxL ret).before a0 Z = true) (hyc : y.cls ≠ "java/lang/invoke/MethodHandle" ∧ y.cls ≠ "java/lang/invoke/VarHandle") (eT : T.heap = h) (hK : BackSQ l R p e below s vm0 args y 3 W (argsL.toArray) h nk ns Z EL Qc) (hsize : Ls.size = c.maxLocals) (hlen : ∀ sig, parseMethodDescriptor y.desc = some sig → argsL.length = sig.parameters.length) (hst : st0 = argsL.reverse ++ st) (hW : (st.map fun v => v.category).sum ≤ W) (hd : decode c.code pc = .ok (.invokestatic index, 3)) (hq : pc + 3 = q) (hc : cells + nk ≤ R.cells) (hs : slots + ns ≤ R.slots) (kk : ∀ (v : Option Value) (T' : State) (L : List Loc), AfterS p l e R s m args below meth c Z EL own vm0 h T' (locs ++ L) (cells + nk) (slots + ns) → Qc v T'.heap L → Go p.tables e below Q (T'.setTop (mkF m q Ls (v.toList ++ st)))) : Go p.tables e below Q (T.setTop (mkF m pc Ls st0)) := by
  subst hq
  obtain ⟨v, T', L, X', hQ, st'⟩ := callStS X hx hZ hown hS hk w1 w2 w3 w4 hyc eT hK (g := mkF m pc Ls st0) rfl hsize hlen hst (by show 2 * 0 + _ ≤ _; omega) hd hc hs
  exact Go.run st' (kk v T' L X' hQ)
theorem g_viS {vm0 : Vm} {y z : MethodName} {W nk ns : Nat} {argsL st0 : List Value} {Qc : Option Value → Heap → List Loc → Prop} (X : Stand p l e R (s.setVm vm0) m args below meth c T locs cells slots) (hx : p.tables.exec = Jvm.exec) (hZ : Z.Warmed39 vm0) (hown : vm0.findClass own = some m.cls) {n0 : Nat} (hS : s.Since vm0 n0) (hk : n0 ≤ h.size) (w1 : (Jvm.Cond.methodLink own index y).before a0 Z = true) (w2 : (Jvm.Cond.declares y).before a0 Z = true) (nf : NotFace (s.setVm vm0) y) (w4 : (Jvm.Cond.selects C y z).before a0 Z = true) (w5 : (Jvm.Cond.instanceMethod z).before a0 Z = true) (hyc : y.cls ≠ "java/lang/invoke/MethodHandle" ∧ y.cls ≠ "java/lang/invoke/VarHandle") (E : Exa Z h a C) (eT : T.heap = h) (hK : BackSQ l R p e below s vm0 args z 3 W ((.ref a :: argsL).toArray) h nk ns Z EL Qc) (hsize : Ls.size = c.maxLocals) (hlen : ∀ sig, parseMethodDescriptor y.desc = some sig → argsL.length = sig.parameters.length) (hst : st0 = argsL.reverse ++ .ref a :: st) (hW : (st.map fun v => v.category).sum ≤ W) (hd : decode c.code pc = .ok (.invokevirtual index, 3)) (hq : pc + 3 = q) (hc : cells + nk ≤ R.cells) (hs : slots + ns ≤ R.slots) (kk : ∀ (v : Option Value) (T' : State) (L : List Loc), AfterS p l e R s m args below meth c Z EL own vm0 h T' (locs ++ L) (cells + nk) (slots + ns) → Qc v T'.heap L → Go p.tables e below Q (T'.setTop (mkF m q Ls (v.toList ++ st)))) : Go p.tables e below Q (T.setTop (mkF m pc Ls st0)) := by
  subst hq
  obtain ⟨v, T', L, X', hQ, st'⟩ := callViS X hx hZ hown hS hk w1 w2 nf w4 w5 hyc eT E hK (g := mkF m pc Ls st0) rfl hsize hlen hst (by show 2 * 0 + _ ≤ _; omega) hd hc hs
  exact Go.run st' (kk v T' L X' hQ)
theorem g_cp (X : Stand p l e R s m args below meth c T locs cells slots) (hx : p.tables.exec = Jvm.exec) (hZ : Z.Warmed39 s.vm) (hown : s.vm.findClass own = some m.cls) (w1 : (Jvm.Cond.methodLink own index Jvm.Stand.acN).before a0 Z = true) (w2 : (Jvm.Cond.native Jvm.Stand.acN).before a0 Z = true) (w3 : (Jvm.Cond.static Jvm.Stand.acN).before a0 Z = true) (w4 : (Jvm.Cond.initialized "java/lang/System").before a0 Z = true) {b : Addr} {k' : ClassId} {ty' : FieldType} {z' sp dp nn : Int32} {vd us : List Value} {d2 : Value} (A : Arv Z h a kc ty z vs d) (B : Arv Z h b k' ty' z' vd d2) (hty : (ty = ty' ∧ refKind ty = false) ∨ (refKind ty = true ∧ refKind ty' = true ∧ StoL Z h b us)) (h1 : ¬ sp < 0) (h2 : ¬ dp < 0) (h3 : ¬ nn < 0) (h4 : sp.toNatClampNeg + nn.toNatClampNeg ≤ z.toNatClampNeg) (h5 : dp.toNatClampNeg + nn.toNatClampNeg ≤ z'.toNatClampNeg) (hus : us = (List.range nn.toNatClampNeg).map fun i => vs.getD (sp.toNatClampNeg + i) d) (hl : dp.toNatClampNeg + nn.toNatClampNeg ≤ vd.length) {n0 : Nat} (N : Fr n0 locs) (ge : n0 ≤ b) (hsize : Ls.size = c.maxLocals) (hf : 1 ≤ R.frames) {W : Nat} (hW : (st.map fun v => v.category).sum ≤ W) (hlo : W + (nativeFrameWords "java/lang/System" "arraycopy" 5 + 11) ≤ R.locals) (eT : T.heap = h) (hd : decode c.code pc = .ok (.invokestatic index, 3)) (hq : pc + 3 = q) (kk : ∀ (T' : State) (h' : Heap) (L : List Loc), Stand p l e R s m args below meth c T' L cells slots → T'.heap = h' → Fr n0 L → Keep h h' [b] → Arv Z h' b k' ty' z' (vd.take dp.toNatClampNeg ++ us ++ vd.drop (dp.toNatClampNeg + nn.toNatClampNeg)) d2 → Go p.tables e below Q (T'.setTop (mkF m q Ls st))) : Go p.tables e below Q (T.setTop (mkF m pc Ls (.int nn :: .int dp :: .ref b :: .int sp :: .ref a :: st))) := by
  subst hq
  obtain ⟨T', h', L, X', e', N', K', V', st'⟩ := cpA X hx hZ hown w1 w2 w3 w4 eT A B hty h1 h2 h3 h4 h5 hus hl N ge (g := mkF m pc Ls (.int nn :: .int dp :: .ref b :: .int sp :: .ref a :: st)) rfl hsize rfl hd hf (W := W) (by show 2 * 0 + _ ≤ _; omega) hlo
  exact Go.to st' (kk T' h' L X' e' N' K' V')
end Steps1
end Jvm.OwnKit

namespace Jvm.OwnKit
open Jvm Jvm.ClassFile Sem Op Lib Jvm.Free Jvm.Stand Jvm.LawKit Jvm.RoadKit Bundle Jvm.Free.Exc
/-- a contract of a method beneath which a stack trace is filled in -/
def ConK (l : Launch) (Z : State) (EL : List (String × Nat)) (y : MethodName) (bytes : ByteArray) (maxL : Nat) (ret : Option FieldType) (rm : Room) (as' : Array Value) (h : Heap) (sl : List Addr) (Qc : Option Value → Heap → List Loc → Prop) : Prop :=
  ∀ ws : List Jvm.Cond, MetFree l y (head1 (Jvm.Cond.code y bytes maxL ret :: ws) rm) (fun a U => a = as' ∧ Z.Warmed39 U.vm ∧ U.heap = h ∧ CHv Z EL U.vm h ∧ ∀ x ∈ sl, Safe Z EL U.vm h x) (fun _ _ bl s _ => s.vm.MethodsKnown ∧ s.vm.FramesKnown bl) (fun _ U o U' => SEnd Z EL U Qc rm.cells rm.slots o U')
theorem ConK.intro {l : Launch} {Z : State} {EL : List (String × Nat)} {y : MethodName} {bytes : ByteArray} {maxL : Nat} {ret : Option FieldType} {rm : Room} {as' : Array Value} {h : Heap} {sl : List Addr} {Qc : Option Value → Heap → List Loc → Prop} (pn : plainFor y = true)
    (body : ∀ (p : Program) (e : Env) (s : State) (m : MethodId) (below : List Frame) (meth : Method) (c : Code) (T : State) (v0 : Vm), Stand p l e rm (s.setVm v0) m as' below meth c T [] 0 0 → p.tables.exec = Jvm.exec → c.code = bytes → c.maxLocals = maxL →
      v0.findClass y.cls = some m.cls → meth.name = y.name → meth.sig.returnType = ret → meth.locks = false → Z.Warmed39 v0 → T.heap = h → s.Since v0 0 → CHr Z EL s.vm s.heap v0 h → (∀ x ∈ sl, Safe Z EL v0 h x) → s.heap = h → v0.MethodsKnown → v0.FramesKnown below →
      Go p.tables e below (SEnd Z EL s Qc rm.cells rm.slots) (T.setTop (entryFrame m as' maxL))) : ConK l Z EL y bytes maxL ret rm as' h sl Qc := by
  intro ws
  refine MetFree.of_bodySF pn hisR ?_
  intro p e s m args below meth c s₁ Bd hml0 hP hK
  obtain ⟨rfl, hZ, hh, hC, hs⟩ := hP
  exact body p e s m below meth c s₁ s.vm (Stand.of_body Bd) Bd.exec Bd.bytes hml0 (findClass_of_methodNamed Bd.named) (name_of_methodNamed Bd.named Bd.method).1 Bd.returns Bd.notSynchronized hZ (by rw [← hh, Bd.state]; rfl) ((State.WarmedH.refl s).since 0) (by rw [hh]; exact CHr.refl hC) hs hh hK.1 hK.2
section
variable {p : Program} {l : Launch} {e : Env} {R : Room} {s : State} {m : MethodId} {args : Array Value} {below : List Frame} {meth : Method} {c : Code} {T : State} {locs : List Loc} {cells slots : Nat} {Z : State} {a0 : Array Value} {EL : List (String × Nat)} {h : Heap} {Qc : Option Value → Heap → List Loc → Prop} {vm0 : Vm} {n0 : Nat}
  {y z : MethodName} {bytes : ByteArray} {maxL : Nat} {ret : Option FieldType} {rm : Room} {as' : Array Value} {own C : String} {index count W k n len : Nat} {g : JFrame} {a : Addr} {argsL rest : List Value}
theorem ConK.back {sl : List Addr} (hM : ConK l Z EL y bytes maxL ret rm as' h sl Qc) (hZ : Z.Warmed39 vm0) (wc : (Jvm.Cond.code y bytes maxL ret).before a0 Z = true) (wz : (Jvm.Cond.initialized y.cls).before a0 Z = true) (hf : rm.frames + 1 ≤ R.frames) (hl : W + (maxL + 11) + rm.locals ≤ R.locals) (hEL : EW Z a0 EL) (H : CHv Z EL vm0 h)
    (hs : ∀ x ∈ sl, Safe Z EL vm0 h x) (hlt : ∀ x ∈ sl, x < h.size) (hTK : vm0.MethodsKnown) (hBelow : vm0.FramesKnown below) : BackSQ l R p e below s vm0 args y len W as' h rm.cells rm.slots Z EL Qc :=
  BackS.of_freeWG (bytes := bytes) (maxL := maxL) (ret := ret) (E := fun _ first o t L k n => k = rm.cells ∧ n = rm.slots ∧ (∃ v, o = .returned v ∧ Qc v t.heap L) ∧ CHr Z EL first.vm first.heap t.vm t.heap) (hM []) hf hl
    (fun m meth c A a Y hp => have hU : Z.Warmed39 A.U.vm := wtrans (s := s.setVm vm0) hZ Y.warmed
      ⟨by show (Cond.and _ .tt).before a A.U = true; rw [Cond.before_and, mv hU wc]; rfl, mv hU wc, mv hU wz, hp.2.2.1, hp.2.2.2⟩)
    (fun m meth c A a g mk Y hp => ⟨hp.1, wtrans (s := s.setVm vm0) hZ Y.warmed, hp.2.1, (CHv.at Y hZ hEL H).1, fun x hx => (CHv.at Y hZ hEL H).safe (hlt x hx) (hs x hx)⟩) (fun m meth c A a g mk Y _ hg => known_frames Y hg hTK hBelow)
    (fun _ _ _ _ ⟨v, L, h1, h2, h3, h4⟩ => ⟨L, _, _, h4, rfl, rfl, ⟨v, h1, h2⟩, h3⟩)
    (fun m meth c A a g mk v t L k n Y hp _ _ ⟨e1, e2, ⟨v', e3, e4⟩, e5⟩ => by
      cases e3; subst e1 e2
      refine ⟨L, e4, rfl, rfl, rfl, (CHv.at Y hZ hEL H).trans ?_⟩
      rw [← hp.2.1]; exact e5)
end
def sub (vs : List Value) (sp n : Nat) (d : Value) : List Value := (List.range n).map fun i => vs.getD (sp + i) d
def ins (vd us : List Value) (p n : Nat) : List Value := vd.take p ++ us ++ vd.drop (p + n)
theorem sub_len {vs : List Value} {sp n : Nat} {d : Value} : (sub vs sp n d).length = n := by simp [sub]
theorem ins_len {vd us : List Value} {p n : Nat} (h : us.length = n) (h2 : p + n ≤ vd.length) : (ins vd us p n).length = vd.length := by
  simp only [ins, List.length_append, List.length_take, List.length_drop, h]
  omega
section
variable {p : Program} {l : Launch} {e : Env} {R : Room} {s : State} {m : MethodId} {args : Array Value} {below : List Frame} {meth : Method} {c : Code} {T : State} {locs : List Loc} {cells slots : Nat} {Z : State} {a0 : Array Value} {h : Heap} {Q : Outcome → State → Prop} {pc q : Nat} {Ls : Array Slot} {st : List Value} {own C : String} {index k : Nat} {a : Addr}
theorem g_newU (X : Stand p l e R s m args below meth c T locs cells slots) (hx : p.tables.exec = Jvm.exec) (hZ : Z.Warmed39 s.vm) (hown : s.vm.findClass own = some m.cls) (w1 : (Jvm.Cond.classLink own index C).before a0 Z = true) (w2 : (Jvm.Cond.instantiable C k).before a0 Z = true) (w3 : (Jvm.Cond.initialized C).before a0 Z = true) (hc : cells + 1 ≤ R.cells) (hl : slots + k ≤ R.slots) (eT : T.heap = h) (hd : decode c.code pc = .ok (.new index, 3)) (hq : pc + 3 = q)
    (kk : ∀ (T' : State) (h' : Heap) (b : Addr), b = h.size → Stand p l e R s m args below meth c T' locs (cells + 1) (slots + k) → T'.heap = h' → Ext h h' → Exa Z h' b C → (∀ {O nm d : String} {ty : FieldType}, Laid Z a0 C O nm d → parseFieldDescriptor d = some ty → Fld Z h' b O nm d (defaultValue ty)) → Unt h' b → Go p.tables e below Q (T'.setTop (mkF m q Ls (.ref b :: st)))) : Go p.tables e below Q (T.setTop (mkF m pc Ls st)) := by
  subst hq
  obtain ⟨T', h', X', e', E', A', D', U', st'⟩ := newO X hx hZ hown w1 w2 w3 eT (g := mkF m pc Ls st) rfl hd hc hl
  exact Go.to st' (kk T' h' _ rfl X' e' E' A' D' U')
theorem g_newE (X : Stand p l e R s m args below meth c T locs cells slots) (hx : p.tables.exec = Jvm.exec) (hZ : Z.Warmed39 s.vm) {aty : ArrayType} {z : Int32} (w1 : (Jvm.Cond.arrayClass (newarray.typeOf aty)).before a0 Z = true) (hn : ¬ z < 0) {n : Nat} (hk : z.toNatClampNeg = n) (hb : n * 8 ≤ 536870912) (hc : cells + 1 ≤ R.cells) (hl : slots + n ≤ R.slots) {ad : String} (had : "[" ++ (newarray.typeOf aty).toString = ad) (eT : T.heap = h) (hd : decode c.code pc = .ok (.newarray aty, 2)) (hq : pc + 2 = q)
    (kk : ∀ (T' : State) (h' : Heap) (kc : ClassId) (b : Addr), b = h.size → Stand p l e R s m args below meth c T' locs (cells + 1) (slots + n) → T'.heap = h' → Ext h h' → Arv Z h' b kc (newarray.typeOf aty) z (List.replicate n (defaultValue (newarray.typeOf aty))) (defaultValue (newarray.typeOf aty)) → Exa Z h' b ad → Go p.tables e below Q (T'.setTop (mkF m q Ls (.ref b :: st)))) : Go p.tables e below Q (T.setTop (mkF m pc Ls (.int z :: st))) := by
  subst hq
  obtain ⟨T', h', cA, X', e', E', A', G', st'⟩ := newPE X hx hZ w1 eT (g := mkF m pc Ls (.int z :: st)) rfl hd rfl hn (cap := n) (Nat.le_of_eq hk) hb hc hl had
  exact Go.to st' (kk T' h' cA _ rfl X' e' E' ((Arv.new A' hn).pad (fun i => by have := pad_rep [] (defaultValue (newarray.typeOf aty)) n i; simpa using this)) G')
theorem g_clone {ad : String} {kc : ClassId} {ty : FieldType} {z : Int32} {vs : List Value} {dv : Value} (X : Stand p l e R s m args below meth c T locs cells slots) (hx : p.tables.exec = Jvm.exec) (hZ : Z.Warmed39 s.vm) (hown : s.vm.findClass own = some m.cls)
    (w1 : (Jvm.Cond.methodLink own index ⟨ad, "clone", "()Ljava/lang/Object;"⟩).before a0 Z = true) (w2 : (Jvm.Cond.sameMethod ad "java/lang/Object" "clone" "()Ljava/lang/Object;").before a0 Z = true) (w3 : (Jvm.Cond.native ⟨"java/lang/Object", "clone", "()Ljava/lang/Object;"⟩).before a0 Z = true)
    (w4 : (Jvm.Cond.instanceMethod ⟨"java/lang/Object", "clone", "()Ljava/lang/Object;"⟩).before a0 Z = true) (w5 : (Jvm.Cond.selects ad ⟨ad, "clone", "()Ljava/lang/Object;"⟩ ⟨"java/lang/Object", "clone", "()Ljava/lang/Object;"⟩).before a0 Z = true) (w6 : (Jvm.Cond.castable ad "java/lang/Cloneable").before a0 Z = true)
    (F : Arv Z h a kc ty z vs dv) (E : Exa Z h a ad) (hsize : Ls.size = c.maxLocals) (hf : 1 ≤ R.frames) {W cap : Nat} (hW : (st.map fun v => v.category).sum ≤ W) (hl : W + 14 ≤ R.locals) (hcap : z.toNatClampNeg = cap) (hc : cells + 1 ≤ R.cells) (hsl : slots + cap ≤ R.slots) (eT : T.heap = h) (hd : decode c.code pc = .ok (.invokevirtual index, 3)) (hq : pc + 3 = q)
    (kk : ∀ (T' : State) (h' : Heap) (b : Addr), b = h.size → Stand p l e R s m args below meth c T' locs (cells + 1) (slots + cap) → T'.heap = h' → Ext h h' → Arv Z h' b kc ty z vs dv → Exa Z h' b ad → Go p.tables e below Q (T'.setTop (mkF m q Ls (.ref b :: st)))) : Go p.tables e below Q (T.setTop (mkF m pc Ls (.ref a :: st))) := by
  subst hq
  obtain ⟨cl, A, q1, S, q3, H, G⟩ := F
  have FC : FitC Z cl := fitC_of A fun i hi v hv => by rw [H i hi] at hv; cases hv; exact G i hi
  obtain ⟨T', h', X', e', ex, A', E', st'⟩ := cloneA X hx hZ hown w1 w2 w3 w4 w5 w6 eT A E FC (g := mkF m pc Ls (.ref a :: st)) rfl hsize rfl hd hf (W := W) (by show 2 * 0 + _ ≤ _; omega) hl (by rw [S, hcap]; exact Nat.le_refl _) hc hsl
  exact Go.to st' (kk T' h' _ rfl X' e' ex ⟨cloneOf cl, A', q1, S, q3, H, G⟩ E')
theorem g_pvC {y : MethodName} {bytes : ByteArray} {maxL : Nat} {ret : Option FieldType} {W nk ns : Nat} {argsL st0 : List Value} {Qc : Option Value → Heap → List Loc → Prop} {K : String} (X : Stand p l e R s m args below meth c T locs cells slots) (hx : p.tables.exec = Jvm.exec) (hZ : Z.Warmed39 s.vm) (hown : s.vm.findClass own = some m.cls) (w1 : (Jvm.Cond.methodLink own index y).before a0 Z = true) (w2 : (Jvm.Cond.instanceMethod y).before a0 Z = true) (w3 : (Jvm.Cond.selects K y y).before a0 Z = true) (w4 : (Jvm.Cond.privateMethod y).before a0 Z = true) (w5 : (Jvm.Cond.code y bytes maxL ret).before a0 Z = true)
    (hyc : y.cls ≠ "java/lang/invoke/MethodHandle" ∧ y.cls ≠ "java/lang/invoke/VarHandle") (E : Exa Z h a C) (eT : T.heap = h) (hK : BackQ l R p e below s args y 3 W (.ref a :: argsL).toArray h nk ns Qc) (hsize : Ls.size = c.maxLocals) (hlen : ∀ sig, parseMethodDescriptor y.desc = some sig → argsL.length = sig.parameters.length) (hst : st0 = argsL.reverse ++ .ref a :: st) (hW : (st.map fun v => v.category).sum ≤ W) (hd : decode c.code pc = .ok (.invokevirtual index, 3)) (hq : pc + 3 = q) (hc : cells + nk ≤ R.cells) (hs : slots + ns ≤ R.slots)
    (kk : ∀ (v : Option Value) (T' : State) (L : List Loc), Stand p l e R s m args below meth c T' (locs ++ L) (cells + nk) (slots + ns) → Qc v T'.heap L → Go p.tables e below Q (T'.setTop (mkF m q Ls (v.toList ++ st)))) : Go p.tables e below Q (T.setTop (mkF m pc Ls st0)) := by
  subst hq
  obtain ⟨cell, k0, q1, q0, q2, q3, q4⟩ := E
  have hobj : ∀ q, cell.vm ≠ .statics q := fun q hq => by rw [hq] at q3; cases q3
  obtain ⟨mk, mM, hn, hm, ha, hb⟩ := Cond.instanceMethod_spec (mvT hZ w2 (args := args))
  obtain ⟨mM', cM, hm', -, -, -, -, -, -, hsig⟩ := Cond.code_spec hn (mvT hZ w5 (args := args))
  cases hm.symm.trans hm'
  obtain ⟨c2, r2, m2, -, -, p3, -, kP, hkP, hkPi⟩ := Cond.selects_spec (mvT hZ w3 (args := args))
  cases hn.symm.trans p3
  have hsel : selectMethod e.platform s.vm cell.cls mk = .method mk := selectMethod_private hm (Cond.privateMethod_at (mvP hZ w4 (args := #[])) mk mM hn hm)
  obtain ⟨vm1, X1, st1⟩ := X.invokevirtual hx hown (mvT hZ w1) hn hm ha hkP hkPi hyc (a := a) (cell := cell) (by rw [eT]; exact q1) hobj hsel hm hb hkP hkPi (g := mkF m pc Ls st0) rfl (argsL := argsL) (rest := st) (hlen _ hsig) hst hd
  obtain ⟨v, ⟨T', L', k', n'⟩, X', ⟨L, hQ, rfl, rfl, rfl⟩, st2⟩ := hK m meth c ⟨T.setVm vm1, locs, cells, slots⟩ (mkF m pc Ls st) (.invokevirtual index) mk (.ref a :: argsL).toArray X1 rfl hsize hd (by show 2 * 0 + (st.map fun v => v.category).sum ≤ _; omega) (X1.named hn) ⟨rfl, eT, hc, hs⟩
  exact Go.run ((st1 _ fun acts => by rw [doInvoke_state]; exact Steps.refl _).trans st2) (kk v T' L X' hQ)
theorem same_self {y y0 : MethodName} {K : String} (wi : (Jvm.Cond.instanceMethod y).before a0 Z = true) (w0 : (Jvm.Cond.selects K y0 y0).before a0 Z = true) (e : y0.cls = y.cls) (hy : y.cls ≠ "java/lang/invoke/MethodHandle" ∧ y.cls ≠ "java/lang/invoke/VarHandle") : (Jvm.Cond.sameMethod y.cls y.cls y.name y.desc).before a0 Z = true := by
  obtain ⟨mk, mM, hn, -⟩ := Cond.instanceMethod_spec wi
  obtain ⟨c2, r2, m2, -, -, p3, -⟩ := Cond.selects_spec w0
  obtain ⟨kr, hkr, hni⟩ := notFace_of_selects w0 m2 p3
  have hf := State.methodFound?_of_named hn hy
  have hc := findClass_of_methodNamed hn
  have hc0 := findClass_of_methodNamed p3
  rw [e, hc] at hc0
  have ec : mk.cls = m2.cls := Option.some.inj hc0
  have hn2 : Z.methodNamed? ⟨y.cls, y.name, y.desc⟩ = some mk := hn
  simp [Cond.before, Cond.holds, Cond.value, hc, hf, hn2, ec, hkr, hni]
theorem g_su {y : MethodName} {bytes : ByteArray} {maxL : Nat} {ret : Option FieldType} {W nk ns : Nat} {argsL st0 : List Value} {Qc : Option Value → Heap → List Loc → Prop} (X : Stand p l e R s m args below meth c T locs cells slots) (hx : p.tables.exec = Jvm.exec) (hZ : Z.Warmed39 s.vm) (hown : s.vm.findClass own = some m.cls) (w1 : (Jvm.Cond.methodLink own index y).before a0 Z = true) (w2 : (Jvm.Cond.sameMethod y.cls y.cls y.name y.desc).before a0 Z = true) (w3 : (Jvm.Cond.instanceMethod y).before a0 Z = true) (w4 : (Jvm.Cond.superclass own y.cls).before a0 Z = true) (w5 : (Jvm.Cond.code y bytes maxL ret).before a0 Z = true) (hn : y.name ≠ "<init>")
    (E : Exa Z h a C) (eT : T.heap = h) (hK : BackQ l R p e below s args y 3 W (.ref a :: argsL).toArray h nk ns Qc) (hsize : Ls.size = c.maxLocals) (hlen : ∀ sig, parseMethodDescriptor y.desc = some sig → argsL.length = sig.parameters.length) (hst : st0 = argsL.reverse ++ .ref a :: st) (hW : (st.map fun v => v.category).sum ≤ W) (hd : decode c.code pc = .ok (.invokespecial index, 3)) (hq : pc + 3 = q) (hc : cells + nk ≤ R.cells) (hs : slots + ns ≤ R.slots)
    (kk : ∀ (v : Option Value) (T' : State) (L : List Loc), Stand p l e R s m args below meth c T' (locs ++ L) (cells + nk) (slots + ns) → Qc v T'.heap L → Go p.tables e below Q (T'.setTop (mkF m q Ls (v.toList ++ st)))) : Go p.tables e below Q (T.setTop (mkF m pc Ls st0)) := by
  subst hq
  obtain ⟨v, vm1, ⟨T', L', k', n'⟩, -, X', ⟨L, hQ, rfl, rfl, rfl⟩, st'⟩ := superBack X hx hZ hown w1 w2 w3 w4 hn hK eT (Ins.self E) (g := mkF m pc Ls st0) rfl hsize w5 hlen hst (by show 2 * 0 + (st.map fun v => v.category).sum ≤ _; omega) hd (fun _ _ => ⟨rfl, eT, hc, hs⟩)
  exact Go.run st' (kk v T' L X' hQ)
theorem nf_of {y y0 : MethodName} {K : String} {as : Array Value} {y1 : MethodName} (w0 : (Jvm.Cond.selects K y1 y0).before as s = true) (e : y0.cls = y.cls) : NotFace s y := fun r0 h0 => by
  obtain ⟨c2, r2, m2, -, -, p3, -, kr, hkr, hni⟩ := Cond.selects_spec w0
  have hc := findClass_of_methodNamed h0
  have hc0 := findClass_of_methodNamed p3
  rw [e, hc] at hc0
  have ec : r0.cls = m2.cls := Option.some.inj hc0
  exact ⟨kr, by rw [ec]; exact hkr, hni⟩
/-- a byte[] as long as no constant's text is no constant's -/
theorem safe_len {EL : List (String × Nat)} {vm : Vm} {x : Addr} {kc : ClassId} {z : Int32} {vs : List Value} {d : Value} (hW : Z.Warmed39 vm) (A : Arv Z h x kc .byte z vs d) (hL : ∀ p ∈ EL, ∃ text : String, (Jvm.Cond.stringLink p.1 p.2 text).before a0 Z = true ∧ (∀ c ∈ text.toList, c.toNat < 256) ∧ text.toList.length ≠ z.toNatClampNeg) : Safe Z EL vm h x := fun B => by
  obtain ⟨cl, ⟨A1, ⟨-, kA, hkA, compA, hkindA⟩, -⟩, -, S, -⟩ := A
  obtain ⟨kA', hkA', ekA⟩ := hW.alike.2.2 _ _ hkA
  obtain ⟨p, hp, u, a, hB, q, -, F, rfl | rfl⟩ := B
  · cases (show h[q.sa]? = some q.sC from F.ha).symm.trans A1
    obtain ⟨cS, ⟨-, -, e⟩, ⟨kS, g1, g2, -⟩, -⟩ := F
    subst e
    cases (show vm.classes[q.sC.cls]? = some kS from g1).symm.trans hkA'
    rw [ekA] at g2
    have := hkindA.symm.trans g2
    cases this
  · cases (show h[q.sd]? = some q.SA from F.hd).symm.trans A1
    obtain ⟨text, w, hlat, hne⟩ := hL p hp
    obtain ⟨c0, k0, cf0, i0, hf, hk, hcf, hp', hu, -⟩ := hB
    obtain ⟨k1, cf1, i1, u1, hk1, hcf1, hp1, hu1, -, htext, -⟩ := Cond.stringLink_spec (s := Wst Z vm h) (args := a0) hf (mvS (s := { Z with heap := h }) hW w)
    cases (show vm.classes[c0]? = some k0 from hk).symm.trans hk1
    cases hcf.symm.trans hcf1
    cases hp'.symm.trans hp1
    cases hu.symm.trans hu1
    obtain ⟨cS, -, -, -, hbyt⟩ := F
    have e1 : u.toList.length = text.toList.length := by rw [Jvm.ClassFile.units_of_text htext hlat, List.length_map]
    have e2 : q.SA.slots.size = u.size := by rw [hbyt, SBG.stringBytes_lat (Jvm.ClassFile.lat_of_text htext hlat)]; simp
    apply hne
    rw [← e1, ← S, e2]; simp
end
end Jvm.OwnKit

namespace Jvm.OwnKit
open Jvm Jvm.ClassFile Sem Op Lib Jvm.Free Jvm.Stand Jvm.LawKit Jvm.RoadKit Bundle Jvm.Free.Exc
/-- the words that the filling in of a stack trace asks, for an object of the class rc -/
def fillAtoms (rc : String) : List Jvm.Cond := [.instanceMethod tFill, .codeSync tFill LibCode.Throwable.Fill.code 1 (some (.object tN)), .instanceMethod tFill0, .native tFill0, .instanceMethod oInit, .code oInit ⟨#[0xb1]⟩ 1 none,
  .methodLink tN 1 oInit, .methodLink tN 27 tFill, .methodLink tN 202 tFill0, .initialized tN, .superclass tN "java/lang/Object", .fieldLink tN 7 tN "cause" thD, .fieldLink tN 17 tN "stackTrace" steD, .fieldLink tN 24 tN "suppressedExceptions" listD, .fieldLink tN 198 tN "backtrace" obD,
  .fieldLink tN 13 tN "UNASSIGNED_STACK" steD, .laysStatic tN "UNASSIGNED_STACK" steD, .fieldLink tN 20 tN "SUPPRESSED_SENTINEL" listD, .laysStatic tN "SUPPRESSED_SENTINEL" listD,
  .lays rc tN "cause" thD, .lays rc tN "stackTrace" steD, .lays rc tN "suppressedExceptions" listD, .lays rc tN "detailMessage" msgD, .lays rc tN "backtrace" obD, .lays rc tN "depth" "I",
  .arrayOver (.object "java/lang/Object"), .soleField tN "backtrace", .soleField tN "depth", .declares tFill, .selects rc tFill0 tFill0, .selects rc tFill tFill]
theorem fill_ok {rc : String} : (fillAtoms rc).all xOk = true := rfl
theorem links_of {args : Array Value} {s : State} {pl : Platform} {rc : String} (p1 : pl.frameOwnsMonitors = true) (p2 : pl.finalization = false) (p3 : pl.magicAccessors = ({} : Platform).magicAccessors) (w : ∀ d ∈ fillAtoms rc, d.before args s = true) :
    ∃ T : ThrowableC, T.Links pl s ∧ s.vm.findClass tN = some T.cT ∧ s.methodNamed? tFill = some T.fill ∧ s.methodNamed? tFill0 = some T.fill0 ∧ s.fieldFound? tN "stackTrace" steD = some (T.cT, T.kT, T.i17, T.fStack) ∧ s.fieldFound? tN "UNASSIGNED_STACK" steD = some (T.cT, T.kT, T.i13, T.fUnassigned) := by
  have at_ : ∀ {i : Nat} {d : Jvm.Cond}, (fillAtoms rc)[i]? = some d → d.holds args s none s [] = true := fun q => w _ (List.mem_of_getElem? q)
  obtain ⟨⟨cT, jF⟩, mF, nF, gF, sF, aF⟩ := Cond.instanceMethod_spec (at_ (i := 0) rfl)
  have fT : s.vm.findClass tN = some cT := findClass_of_methodNamed nF
  obtain ⟨kT, hk, hnm⟩ := Vm.findClass_spec fT
  have atM : ∀ {j : Nat} {mm : Method}, s.vm.method? ⟨cT, j⟩ = some mm → kT.methods[j]? = some mm := fun {j mm} q => by simpa [Vm.method?, hk] using q
  obtain ⟨mF', cF, gF', cF1, cF2, cF3, cF4, cF5, -, cF6⟩ := Cond.codeSync_spec nF (at_ (i := 1) rfl)
  cases gF.symm.trans gF'
  obtain ⟨j0, m0, n0, g0, at0, s0, a0, nm0, ds0⟩ := Cond.ownMethod (x := tFill0) fT hk (at_ (i := 2) rfl)
  obtain ⟨_, m0', n0', g0', v0, v1, v2, v3⟩ := Cond.native_spec (at_ (i := 3) rfl)
  cases n0.symm.trans n0'
  cases g0.symm.trans g0'
  obtain ⟨mo, mO, nO, gO, sO, aO⟩ := Cond.instanceMethod_spec (at_ (i := 4) rfl)
  obtain ⟨mO', cO, gO', cO1, cO2, -, -, cO5, -, cO6⟩ := Cond.code_spec nO (at_ (i := 5) rfl)
  cases gO.symm.trans gO'
  obtain ⟨kO, hkO, hnO⟩ := Vm.findClass_spec (findClass_of_methodNamed nO)
  obtain ⟨nmO, dsO⟩ := name_of_methodNamed nO gO
  obtain ⟨c1, e1, cf, l1, r1, hcf, q1⟩ := Cond.linkedMethod fT hk nO (at_ (i := 6) rfl) pl p3
  obtain ⟨c2, e2, cf2, l2, r2, hcf2, q2⟩ := Cond.linkedMethod fT hk nF (at_ (i := 7) rfl) pl p3
  cases hcf.symm.trans hcf2
  obtain ⟨c3, e3, cf3, l3, r3, hcf3, q3⟩ := Cond.linkedMethod fT hk n0 (at_ (i := 8) rfl) pl p3
  cases hcf.symm.trans hcf3
  have hi := Cond.initialized_spec fT hk (at_ (i := 9) rfl)
  obtain ⟨_, k2, _, _, hk2, _, _, -, _, hni⟩ := Cond.superclass_spec fT (at_ (i := 10) rfl)
  cases hk.symm.trans hk2
  obtain ⟨c7, i7, f7, u1, u2, u3, u4, u5, -, -, -⟩ := Cond.ownField (t := .object tN) fT hk (by decide +kernel) (at_ (i := 11) rfl) (at_ (i := 19) rfl) pl p3
  obtain ⟨c17, i17, f17, x1, x2, x3, x4, x5, x6, -, x8⟩ := Cond.ownField (t := .array (.object "java/lang/StackTraceElement")) fT hk (by decide +kernel) (at_ (i := 12) rfl) (at_ (i := 20) rfl) pl p3
  obtain ⟨c24, i24, f24, y1, y2, y3, y4, y5, y6, -, y8⟩ := Cond.ownField (t := .object "java/util/List") fT hk (by decide +kernel) (at_ (i := 13) rfl) (at_ (i := 21) rfl) pl p3
  obtain ⟨c13, i13, f13, aS, _, z1, z2, z3, z4, -, -, z7, -, -, -, -, z8⟩ := Cond.ownStatic (t := .array (.object "java/lang/StackTraceElement")) fT hk (by decide +kernel) (at_ (i := 15) rfl) (at_ (i := 16) rfl) pl p3
  obtain ⟨c20, i20, f20, _, _, t1, t2, t3, t4, -⟩ := Cond.ownStatic (t := .object "java/util/List") fT hk (by decide +kernel) (at_ (i := 17) rfl) (at_ (i := 18) rfl) pl p3
  obtain ⟨cR, kR, _, _, _, _, fR, hkR, -⟩ := Cond.lays_spec (at_ (i := 20) rfl)
  obtain ⟨-, b1, b2, b3⟩ := Cond.laysAt fR hkR x8 (at_ (i := 20) rfl)
  obtain ⟨-, b4, b5, b6⟩ := Cond.laysAt fR hkR y8 (at_ (i := 21) rfl)
  refine ⟨{ cT := cT, kT := kT, cO := cT, aS := aS, fillIdx := jF, fill0Idx := j0, initSIdx := j0, obj := mo, kObj := kO, methFill := mF, methFill0 := m0, methInitS := m0, methObj := mO, codeFill := cF, codeInitS := cF, codeObj := cO,
              fBack := f7, fDepth := f7, fStack := f17, fCause := f7, fSupp := f24, fMsg := f7, fUnassigned := f13, fSentinel := f20, cfT := cf, ci1 := c1, n1 := e1, ci27 := c2, n27 := e2, ci202 := c3, n202 := e3,
              ci7 := c7, i7 := i7, ci13 := c13, i13 := i13, ci17 := c17, i17 := i17, ci20 := c20, i20 := i20, ci24 := c24, i24 := i24 }, ?_, fT, nF, n0, x8, z8⟩
  have pF : mF.sig = ⟨[], some (.object tN)⟩ := Option.some.inj (cF6.symm.trans (by decide +kernel))
  have p0 : m0.sig = ⟨[.int], some (.object tN)⟩ := Option.some.inj (v3.symm.trans (by decide +kernel))
  have pO : mO.sig = ⟨[], none⟩ := Option.some.inj (cO6.symm.trans (by decide +kernel))
  exact { owns := p1, noFinalization := p2, cls := hk, name := hnm, boot := Vm.findClass_boot fT hk, notInterface := hni, initialized := hi, statics := z7, file := hcf,
          fillAt := atM gF, fillCode := cF1, fillBytes := cF2, fillLocals := cF3, fillLocks := cF5, fillStatic := sF, fillAbstract := aF, fillReturns := cF4, fillParams := congrArg (·.parameters) pF,
          fill0At := at0, fill0Name := nm0, fill0Desc := ds0, fill0Params := congrArg (·.parameters) p0, fill0Static := s0, fill0Native := v0, fill0Code := v1, fill0Locks := v2, fill0Abstract := a0,
          objClass := hkO, objClassName := hnO, objMethod := gO, objName := nmO, objStatic := sO, objAbstract := aO, objFound := dsO ▸ lookupSpecial_of_named nO gO sO, objParams := by show mO.sig.parameters.length = 0; rw [pO]; rfl, objCode := cO1, objBytes := cO2, objLocks := cO5,
          stackInstance := x4, stackNotFinal := x5, causeInstance := u4, causeNotFinal := u5, suppInstance := y4, suppNotFinal := y5, msgInstance := u4, msgNotFinal := u5, unassignedStatic := z4, sentinelStatic := t4, stackApartSupp := Cond.laysApart b2 b5 b3 b6 (by rw [x6, y6]; decide),
          mlink1 := l1, mright1 := r1, pool1 := q1, mlink27 := l2, mright27 := r2, pool27 := q2, mlink202 := l3, mright202 := r3, pool202 := q3,
          link7 := u1, right7 := u2, at7 := u3, link13 := z1, right13 := z2, at13 := z3, link17 := x1, right17 := x2, at17 := x3, link20 := t1, right20 := t2, at20 := t3, link24 := y1, right24 := y2, at24 := y3 }
/-- what the constructors of Throwable read of its statics -/
def ThSt (Z : State) : Prop := (∃ u : Value, u.isRef = true ∧ Sta Z Z.heap tN "UNASSIGNED_STACK" steD u) ∧ ∃ u : Value, u.isRef = true ∧ Sta Z Z.heap tN "SUPPRESSED_SENTINEL" listD u
theorem thst_of {Z : State} {a0 : Array Value} {rc : String} (w : ∀ d ∈ fillAtoms rc, d.before a0 Z = true) (r : ∀ d ∈ twoRefs, d.before a0 Z = true) : ThSt Z := by
  have one : ∀ {F D : String}, (Jvm.Cond.laysStatic tN F D).before a0 Z = true → (Jvm.Cond.isRef (.static tN F D)).before a0 Z = true → ∃ u : Value, u.isRef = true ∧ Sta Z Z.heap tN F D u := fun hl hr => by
          obtain ⟨u, cf, i, k, f, sa, ce, q1, q2, q3, q4, q5, -, q7⟩ := staticIs_of (w _ (List.mem_of_getElem? (i := 9) rfl)) hl hr
          obtain ⟨_, _, _, _, _, _, -, g1, -, g4, g5, g6, -⟩ := Cond.laysStatic_spec hl
          cases q1.symm.trans g1
          cases q4.symm.trans g4
          cases q5.symm.trans g5
          exact ⟨u.v, u.ok, cf, i, k, f, sa, ce, q1, q2, q3, q4, q5, g6, q7⟩
  exact ⟨one (w _ (List.mem_of_getElem? (i := 16) rfl)) (r _ (List.mem_of_getElem? (i := 0) rfl)), one (w _ (List.mem_of_getElem? (i := 18) rfl)) (r _ (List.mem_of_getElem? (i := 1) rfl))⟩
theorem own_nrefA {t : FieldType} {v : Value} (h : v.isRef = true) : narrow (.array t) v = v := narrow_refV _ ⟨v, h⟩
theorem own_frefA {t : FieldType} {v : Value} (h : v.isRef = true) : fits (.array t) v = true := fits_refV_array _ ⟨v, h⟩
section
variable {p : Program} {l : Launch} {e : Env} {R : Room} {s : State} {m : MethodId} {args : Array Value} {below : List Frame} {meth : Method} {c : Code} {T : State} {locs : List Loc} {cells slots : Nat} {Z : State} {a0 : Array Value} {h h0 h' : Heap} {Q : Outcome → State → Prop} {pc q : Nat} {Ls : Array Slot} {st : List Value} {a : Addr}
/-- no cell but a has changed -/
def Only (h h' : Heap) (a : Addr) : Prop := h'.size = h.size ∧ ∀ y : Addr, y ≠ a → h'[y]? = h[y]?
theorem Only.same (q : h0 = h) : Only h0 h a := by subst q; exact ⟨rfl, fun _ _ => rfl⟩
theorem Only.wr {sl : Nat} {v : Value} (F : Only h0 h a) (W : Wr h h' a sl v) : Only h0 h' a := by
  obtain ⟨cell, -, -, -, rfl⟩ := W
  exact ⟨by simpa using F.1, fun y hy => by rw [Array.getElem?_setIfInBounds_ne (Ne.symm hy)]; exact F.2 y hy⟩
theorem based {sl : Nat} (F : ∀ x ∈ locs, x.base = a) (X : Stand p l e R s m args below meth c T (locs ++ [⟨a, sl⟩]) cells slots) : ∀ x ∈ locs ++ [⟨a, sl⟩], x.base = a := fun x hx => (List.mem_append.mp hx).elim (F x) fun q => by cases List.mem_singleton.mp q; rfl
set_option maxHeartbeats 4000000 in
/-- 'fillInStackTrace()' of Throwable, called in a constructor of Throwable -/
theorem g_fill (X : Stand p l e R s m args below meth c T locs cells slots) (hx : p.tables.exec = Jvm.exec) (hl : l.stackTraces = true) (hZ : Z.Warmed39 s.vm) (hown : s.vm.findClass tN = some m.cls) {rc : String} {n : Nat} (W0 : ∀ d ∈ fillAtoms rc, d.before a0 Z = true) (wi : (Jvm.Cond.instantiable rc n).before a0 Z = true)
    (hT0 : ThS Z s.heap) (hTK : s.vm.MethodsKnown) (hBelow : s.vm.FramesKnown below) (eT : T.heap = h) (E : Exa Z h a rc) (N : Unt h a) (B : Fld Z h a tN "backtrace" obD .null) (B2 : Fld Z h a tN "detailMessage" msgD .null) {u : Value} (hu : u.isRef = true) (G : Fld Z h a tN "stackTrace" steD u) (S : Sta Z h tN "UNASSIGNED_STACK" steD u)
    (F : ∀ x ∈ locs, x.base = a) (O : Only s.heap h a) (hsize : Ls.size = c.maxLocals) (hd : decode c.code pc = .ok (.invokevirtual 27, 3)) (hq : pc + 3 = q) (hf : 3 ≤ R.frames) {W : Nat} (hW : (st.map fun v => v.category).sum ≤ W) (hlo : W + 42 ≤ R.locals) (hc : cells + 1 ≤ R.cells) (hsl : slots + 2752 ≤ R.slots)
    (kk : ∀ (T' : State) (h' : Heap) (L : List Loc), Stand p l e R s m args below meth c T' (locs ++ L) (cells + 1) (slots + 2752) → T'.heap = h' → (∀ x ∈ L, x.base = a) → Keep h h' [a] → Fld Z h' a tN "detailMessage" msgD .null → Go p.tables e below Q (T'.setTop (mkF m q Ls (.ref a :: st)))) : Go p.tables e below Q (T.setTop (mkF m pc Ls (.ref a :: st))) := by
  subst hq
  have hp := X.admits.platform
  have ws : ∀ d ∈ fillAtoms rc, d.before args s = true := fun d hd => mvX hT0 hZ (List.all_eq_true.mp fill_ok d hd) (W0 d hd)
  have at_ : ∀ {i : Nat} {d : Jvm.Cond}, (fillAtoms rc)[i]? = some d → d.holds args s none s [] = true := fun q => ws _ (List.mem_of_getElem? q)
  obtain ⟨TT, LL, fT, nF, n0, x8, z8⟩ := links_of (pl := e.platform) (by rw [hp]) (by rw [hp]) (by rw [hp]) ws
  obtain ⟨cl, k0, E1, E2, E3, E4, E5⟩ := E
  obtain ⟨_, N1, N2, N3⟩ := N
  cases E1.symm.trans N1
  obtain ⟨_, cB, kB, iB, fB, B1, B3, -, -, -, -, B7⟩ := B
  cases E1.symm.trans B1
  obtain ⟨_, cM, kM, iM, fM, M1, M3, M4, M5, M6, M7, M8⟩ := B2
  cases E1.symm.trans M1
  obtain ⟨_, cG, kG, iG, fG, G1, G3, -, -, -, -, G7⟩ := G
  cases E1.symm.trans G1
  obtain ⟨cS, iS, kS, fS, sa, sc, S1, S2, S3, S4, S5, S6, S7⟩ := S
  obtain ⟨_, _, i1, i2, i3, -⟩ := Cond.instantiable_spec wi
  cases E2.symm.trans i1
  cases E3.symm.trans i2
  obtain ⟨kR, r1, r2⟩ := hZ.alike.2.2 _ _ E3
  have fR : s.vm.findClass rc = some cl.cls := by rw [hZ.alike.findClass]; exact E2
  obtain ⟨kG', G4, -⟩ := State.fieldFound?_setVm (s := Z) hZ.alike G3
  cases (show s.fieldFound? tN "stackTrace" steD = _ from G4).symm.trans x8
  obtain ⟨kS', S8, S9⟩ := State.fieldFound?_setVm (s := Z) hZ.alike S1
  cases (show s.fieldFound? tN "UNASSIGNED_STACK" steD = _ from S8).symm.trans z8
  obtain rfl : sa = TT.aS := Option.some.inj (S4.symm.trans ((congrArg Class.statics S9).symm.trans LL.statics))
  obtain ⟨ci, ib, fb, b1, b2, b3, b4, -, b5, b6, b7⟩ := Cond.ownField (t := .object "java/lang/Object") fT LL.cls (by decide +kernel) (at_ (i := 14) rfl) (at_ (i := 23) rfl) e.platform (by rw [hp])
  obtain ⟨kB', B4, -⟩ := State.fieldFound?_setVm (s := Z) hZ.alike B3
  cases (show s.fieldFound? tN "backtrace" obD = _ from B4).symm.trans b7
  obtain ⟨kM', M9, -⟩ := State.fieldFound?_setVm (s := Z) hZ.alike M3
  have M9' : s.fieldFound? tN "detailMessage" msgD = some (cM, kM', iM, fM) := M9
  obtain ⟨_, _, cD, kD, iD, fD, -, -, D3, D4, -⟩ := Cond.lays_spec (at_ (i := 24) rfl)
  cases (Cond.lays_declared (at_ (i := 24) rfl) D3).symm.trans fT
  obtain ⟨D5, D6⟩ := State.fieldFound?_spec D3
  cases D5.symm.trans LL.cls
  obtain ⟨D7, D8⟩ := State.fieldFound?_type D3 (t := .int) (by decide +kernel)
  obtain ⟨Y1, Y2⟩ := State.fieldFound?_type x8 (t := .array (.object "java/lang/StackTraceElement")) (by decide +kernel)
  obtain ⟨Y3, -⟩ := State.fieldFound?_type M9' (t := .object "java/lang/String") (by decide +kernel)
  obtain ⟨tS, _, lS, lS'⟩ := Cond.laysAt fR r1 x8 (at_ (i := 20) rfl)
  obtain ⟨tB, _, lB, lB'⟩ := Cond.laysAt fR r1 b7 (at_ (i := 23) rfl)
  obtain ⟨tD, _, lD, lD'⟩ := Cond.laysAt fR r1 D3 (at_ (i := 24) rfl)
  obtain ⟨tM, _, lM, lM'⟩ := Cond.laysAt fR r1 M9' (at_ (i := 22) rfl)
  have tk : ∀ {f : Field} {v : Value}, kR.instanceTypes[f.slot]? = some f.type → fits f.type v = true → Jvm.Takes s cl f v := fun {f v} q1 q2 => by
    obtain ⟨q3, q4⟩ := Takes.of_laid (v := v) r1 (by rw [r2]; exact i3) q1 q2
    refine ⟨?_, by rw [N2]; exact q4⟩
    have q5 : f.slot < kR.instanceTypes.size := by simpa using q3
    rw [r2] at q5
    exact (E5 i3).symm ▸ q5
  obtain ⟨comp, cO, kO, -, -, hkO, hkindO, hO⟩ := Cond.arrayOver_spec (at_ (i := 25) rfl)
  have hsel : selectMethod e.platform s.vm cl.cls TT.fill0 = .method TT.fill0 := by
    obtain ⟨_, _, _, q1, q2, q3, q4, -⟩ := Cond.selects_spec (at_ (i := 29) rfl)
    cases q1.symm.trans fR
    cases q2.symm.trans (State.methodFound?_of_named n0 (by decide))
    cases q3.symm.trans n0
    rw [Launch.admits_selectMethod X.admits]; exact q4
  have hne : TT.aS ≠ a := fun q => by rw [q, E1] at S5; cases S5; rw [N2] at S6; cases S6
  obtain ⟨v, vm1, ⟨T', L', k', n'⟩, -, X', ⟨hv, D, nn, hn, C1, C2, C3, C4, C5, hL, hcc, hnn⟩, st'⟩ := X.virtualBack hx (own := tN) (C := rc) (index := 27) (y := tFill) (z := tFill) hown (at_ (i := 7) rfl) (at_ (i := 28) rfl) (notFace_of_selects (at_ (i := 30) rfl)) (at_ (i := 30) rfl) (at_ (i := 0) rfl) (by decide)
    (fillPaysAny (l := l) (W := W) hx (by rw [hp]; exact hl) TT LL nF (u0 := ⟨u, hu⟩) (self := a) (cell := cl) (cellS := sc) (fun _ => by rw [N2]; simp) (by rw [N2]; simp) (by rw [N3]) (by rw [N3]) G7 hsel hne (fun q => by rw [q] at S6; cases S6) S7 (tk tS (by rw [Y2]; exact fits_refV_array _ ⟨u, hu⟩))
      ⟨{ ci198 := ci, i198 := iB, fBack := fB }, ⟨b1, b2, b3, b4⟩, B7⟩ hTK hBelow fT hO hkO hkindO (Cond.soleField_find fT LL.cls (at_ (i := 26) rfl) b3 b5 b4) (Cond.soleField_find fT LL.cls (at_ (i := 27) rfl) D6 D7 D4)
      (fun x => tk tB (by rw [b6]; rfl)) (fun x => tk tD (by rw [D8]; rfl)) (by omega) hlo)
    (b := a) (cB := cl.cls) fR ⟨cl, by rw [eT]; exact E1, rfl, E4⟩ (g := mkF m pc Ls (.ref a :: st)) rfl hsize (Steps.refl _) (argsL := []) (rest := st)
    (fun sig q => by rw [show parseMethodDescriptor tFill.desc = some ⟨[], some (.object tN)⟩ from by decide +kernel] at q; rw [← Option.some.inj q]; rfl) rfl (by show 2 * 0 + _ ≤ _; omega) hd
    (fun vmx _ => ⟨rfl, hc, hsl, by show T.heap[a]? = _; rw [eT]; exact E1, by show T.heap[TT.aS]? = _; rw [eT]; exact S5⟩)
  dsimp only [Pt.U, Pt.locs, Pt.cells, Pt.slots] at X' C1 hL hcc hnn st'
  subst hv hL hcc hnn
  have hB : ∀ x ∈ [(⟨a, fB.slot⟩ : Loc), ⟨a, fD.slot⟩, ⟨a, TT.fStack.slot⟩], x.base = a := fun x hx => by
    simp only [List.mem_cons, List.not_mem_nil, or_false] at hx
    rcases hx with rfl | rfl | rfl <;> rfl
  have hA : ∀ x ∈ locs ++ [(⟨a, fB.slot⟩ : Loc), ⟨a, fD.slot⟩, ⟨a, TT.fStack.slot⟩], x.base = a := fun x hx => (List.mem_append.mp hx).elim (F x) (hB x)
  refine Go.run st' (kk T' T'.heap _ (X'.more (Nat.le_refl _) (Nat.add_le_add_left hn _)) rfl hB ⟨?_, ?_, ?_⟩ ?_)
  · rw [O.1]; exact X'.same.2.1
  · intro x cx h1 h2
    have h3 : x ≠ a := fun q => h2 (by rw [q]; exact List.mem_singleton.mpr rfl)
    obtain ⟨c', q1, q2, q3, q4⟩ := X'.same.2.2.2.2.2 x cx (by rw [← O.2 x h3]; exact h1)
    have q5 : c'.slots = cx.slots := Array.ext_getElem? fun i => q4 i fun hm => h3 (hA _ hm : (⟨x, i⟩ : Loc).base = a)
    rw [show T'.heap[x]? = some c' from q1, q2, q5]
  · intro x cx h1
    by_cases h3 : x = a
    · subst h3
      cases h1.symm.trans E1
      exact ⟨D, C1, C2, C3, C4⟩
    · obtain ⟨c', q1, q2, q3, q4⟩ := X'.same.2.2.2.2.2 x cx (by rw [← O.2 x h3]; exact h1)
      exact ⟨c', q1, by rw [q2], by rw [q2], q3⟩
  · exact ⟨D, cM, kM, iM, fM, C1, M3, M4, by rw [C3]; exact M5, by rw [C3]; exact M6, by rw [C2]; exact M7, (C5 _ (Cond.laysApart lM lB lM' lB' (by rw [Y3, b5]; decide)) (Cond.laysApart lM lD lM' lD' (by rw [Y3, D7]; decide)) (Cond.laysApart lM lS lM' lS' (by rw [Y3, Y1]; decide))).trans M8⟩
end
end Jvm.OwnKit
namespace Jvm.OwnKit
end Jvm.OwnKit
namespace Jvm.OwnKit
open Jvm Jvm.ClassFile Sem Op Lib Jvm.Free Jvm.Stand Jvm.LawKit Jvm.RoadKit
end Jvm.OwnKit

namespace Jvm.OwnKit
open Jvm Jvm.ClassFile Sem Op Lib Jvm.Free Jvm.Stand Jvm.LawKit Jvm.RoadKit Bundle
section
variable {p : Program} {l : Launch} {e : Env} {R : Room} {s : State} {m : MethodId} {args : Array Value} {below : List Frame} {meth : Method} {c : Code} {T : State} {locs : List Loc} {cells slots : Nat} {Z : State} {a0 : Array Value} {EL : List (String × Nat)} {h : Heap} {Q : Outcome → State → Prop} {pc q : Nat} {Ls Ls' : Array Slot} {st : List Value} {x y z : Int32} {jx jy jz : Int64} {a : Addr} {v w : Value} {k : Nat} {k4 : Fin 4} {i : Nat} {vs : List Value} {d : Value} {ty : FieldType} {kc : ClassId} {own C O f dd : String} {index : Nat}
theorem g_ldcw {vm0 : Vm} (X : Stand p l e R (s.setVm vm0) m args below meth c T locs cells slots) (hx : p.tables.exec = Jvm.exec) (hZ : Z.Warmed39 vm0) (hown : vm0.findClass own = some m.cls) {text : String} (w : (Jvm.Cond.stringLink own index text).before a0 Z = true) (wS : ∀ a ∈ Bundle.stringAtoms, a.before a0 Z = true) {k0 : Nat} (hS : s.Since vm0 k0) (hk : k0 ≤ h.size) (hEL : EW Z a0 EL) (hmem : (own, index) ∈ EL) (H : CHv Z EL vm0 h) (ht : (∀ c ∈ text.toList, c.toNat < 256) ∧ text.toList.map (fun c => Value.int (Jvm.Lit.byteI c.toNat.toUInt16)) = vs) (hz : ¬ z < 0) (hl : z.toNatClampNeg = vs.length) {n : Nat} (hn : 4 * text.toList.length ≤ n) (hbig : n ≤ 536870912) (hc : cells + 2 ≤ R.cells) (hl' : slots + (n + 4) ≤ R.slots) (eT : T.heap = h) (hd : decode c.code pc = .ok (.ldc_w index, 3)) (hq : pc + 3 = q) (kk : ∀ (a : Addr) (T' : State) (h' : Heap) (k1 : Nat) (b : Addr) (k : ClassId), Stand p l e R (s.setVm T'.vm) m args below meth c T' locs (cells + 2) (slots + (n + 4)) → T'.heap = h' → Ext h h' → s.Since T'.vm k1 → k1 ≤ h'.size → Z.Warmed39 T'.vm → T'.vm.findClass own = some m.cls → Exa Z h' a "java/lang/String" → Fld Z h' a "java/lang/String" "coder" "B" (.int 0) → Fld Z h' a "java/lang/String" "value" "[B" (.ref b) → Arv Z h' b k .byte z vs (.int 0) → a < h'.size → b < h'.size → CHr Z EL vm0 h T'.vm h' → (∀ x, Safe Z EL T'.vm h' x → x ≠ a ∧ x ≠ b) → Go p.tables e below Q (T'.setTop (mkF m q Ls (.ref a :: st)))) : Go p.tables e below Q (T.setTop (mkF m pc Ls st)) := by
  subst hq
  obtain ⟨a, T', h', k1, b, k, X', e', E', S', hk', hZ', ho', A', F1, F2, V', l1, l2, R', -, sn, st'⟩ := ldcWCH X hx hZ hown w wS eT hS hk hEL hmem H ht hz hl (g := mkF m pc Ls st) rfl hd hn hbig hc hl'
  exact Go.to st' (kk a T' h' k1 b k X' e' E' S' hk' hZ' ho' A' F1 F2 V' l1 l2 R' sn)
end
end Jvm.OwnKit

namespace Jvm.Pilot.@@N@@
open Jvm Jvm.ClassFile Sem Op Lib Jvm.Free Jvm.Stand Jvm.LawKit Jvm.RoadKit Jvm.OwnKit Bundle Jvm.Pilot.@@N@@.Jvm.D
abbrev HW (a0 : Array Value) (Z : State) : Prop := ∀ d ∈ tables_1, d.before a0 Z = true
abbrev tSC (Z : State) (zC : Int32) : Prop := Sta Z Z.heap "java/lang/String" "COMPACT_STRINGS" "Z" (.int zC)
set_option maxRecDepth 65536
set_option maxHeartbeats 40000000
abbrev iv (x : Int32) : Value := .int x
abbrev sT0 : String := "java/lang/AbstractStringBuilder"
abbrev sT1 : String := "java/lang/String"
abbrev sT2 : String := "java/lang/StringBuilder"
abbrev sT3 : String := "com/example/usage_throttle/usagethrottle/io/InvalidPolicyException"
abbrev sT4 : String := "java/lang/Throwable"
abbrev sT5 : String := "(Ljava/lang/Object;)Lcom/example/usage_throttle/usagethrottle/io/InvalidPolicyException;"
def chr (x : Int32) : Int32 := (x &&& 255).toUInt32.toUInt16.toUInt32.toInt32
theorem chr_eq (x : Int32) : chr x = x &&& 255 := i2c_mask x
theorem chr_rng (x : Int32) : ¬ chr x < 0 ∧ ¬ (255 : Int32) < chr x := by
  rw [chr_eq]
  have h := c_mask x 255 8 (by decide) (by decide)
  simp only [Int32.lt_iff_toInt_lt]
  have h0 : (0 : Int32).toInt = 0 := by decide
  have h1 : (255 : Int32).toInt = 255 := by decide
  rw [h, h0, h1]
  have : (2 ^ 8 : Nat) = 256 := by decide
  omega
theorem chr_nar (x : Int32) : nar .char (chr x) = chr x := by simp only [nar, chr, UInt32.toUInt32_toInt32, UInt16.toUInt16_toUInt32]
theorem al0 {P : Int32 → Prop} : ∀ c ∈ ([] : List Int32), P c := fun _ q => nomatch q
theorem alS {P : Int32 → Prop} {y : Int32} {L : List Int32} (q : P y) (r : ∀ x ∈ L, P x) : ∀ x ∈ y :: L, P x := fun x z => (List.mem_cons.mp z).elim (fun u => u ▸ q) (r x)
theorem shr_zero (x : Int32) : x >>> ((0 : Int32) &&& 31) = x := by
  rw [show ((0 : Int32) &&& 31) = 0 from by decide]
  exact Int32.toInt_inj.mp (by rw [show x >>> (0 : Int32) = x >>> ((0 : Int32) &&& 31) from by rw [show ((0 : Int32) &&& 31) = 0 from by decide], c_ishr x 0 0 (by decide)]; simp)
theorem lo8_nar (x : Int32) : nar .byte (StrChars.lo8 x) = StrChars.lo8 x := by simp [nar, StrChars.lo8]
abbrev EL : List (String × Nat) := [("com/example/usage_throttle/usagethrottle/io/PolicyFields", 65), ("com/example/usage_throttle/usagethrottle/io/PolicyFields", 223), ("java/lang/String", 7), ("java/lang/String", 1005)]
theorem wd261 {a0 : Array Value} {Z : State} (hw : HW a0 Z) : ((Jvm.Cond.stringLink "java/lang/String" (1005 : Nat) "null") : Jvm.Cond).before a0 Z = true := hw _ (List.mem_of_getElem? (i := 261) rfl)
theorem wd15 {a0 : Array Value} {Z : State} (hw : HW a0 Z) : ((Jvm.Cond.stringLink "java/lang/String" (7 : Nat) "") : Jvm.Cond).before a0 Z = true := hw _ (List.mem_of_getElem? (i := 15) rfl)
theorem wd48 {a0 : Array Value} {Z : State} (hw : HW a0 Z) : ((Jvm.Cond.stringLink "com/example/usage_throttle/usagethrottle/io/PolicyFields" (223 : Nat) "unknown field '") : Jvm.Cond).before a0 Z = true := hw _ (List.mem_of_getElem? (i := 48) rfl)
theorem wd112 {a0 : Array Value} {Z : State} (hw : HW a0 Z) : ((Jvm.Cond.stringLink "com/example/usage_throttle/usagethrottle/io/PolicyFields" (65 : Nat) "'") : Jvm.Cond).before a0 Z = true := hw _ (List.mem_of_getElem? (i := 112) rfl)
theorem own_EW {a0 : Array Value} {Z : State} (hw : HW a0 Z) : EW Z a0 EL := EW.cons (wd112 hw) (by decide) (EW.cons (wd48 hw) (by decide) (EW.cons (wd15 hw) (by decide) (EW.cons (wd261 hw) (by decide) (EW.nil))))
theorem own_wS {a0 : Array Value} {Z : State} (hw : HW a0 Z) : ∀ d ∈ Bundle.stringAtoms, d.before a0 Z = true := fun d hd => hw d ((by decide +kernel : ∀ d ∈ Bundle.stringAtoms, d ∈ tables_1) d hd)
theorem own_wStr {a0 : Array Value} {Z : State} (hw : HW a0 Z) : ∀ d ∈ StrChars.Road.words, d.before a0 Z = true := fun d hd => hw d ((by decide +kernel : ∀ d ∈ StrChars.Road.words, d ∈ tables_1) d hd)
theorem own_LN {a0 : Array Value} {Z : State} (hw : HW a0 Z) (n : Nat) (h : [1, 15, 0, 4].contains n = false) : ∀ p ∈ EL, ∃ text : String, (Jvm.Cond.stringLink p.1 p.2 text).before a0 Z = true ∧ (∀ c ∈ text.toList, c.toNat < 256) ∧ text.toList.length ≠ n := by
  intro p hp
  simp only [EL, List.mem_cons, List.not_mem_nil, or_false] at hp
  rcases hp with rfl | rfl | rfl | rfl
  · exact ⟨_, (wd112 hw), by decide, fun e => by subst e; revert h; decide⟩
  · exact ⟨_, (wd48 hw), by decide, fun e => by subst e; revert h; decide⟩
  · exact ⟨_, (wd15 hw), by decide, fun e => by subst e; revert h; decide⟩
  · exact ⟨_, (wd261 hw), by decide, fun e => by subst e; revert h; decide⟩
theorem sub_zero32 (x : Int32) : x - (0 : Int32) = x := by simp
theorem shl_zero (x : Int32) : x <<< ((0 : Int32) &&& 31) = x := by
  rw [show ((0 : Int32) &&& 31) = 0 from by decide]; simp
def ExW (a0 : Array Value) (Z : State) : Prop := (∀ d ∈ fillAtoms sT3, d.before a0 Z = true) ∧ ThSt Z
theorem lr32 : ¬ (32 : Int32) < 0 ∧ ¬ (255 : Int32) < (32 : Int32) := by decide
theorem lr39 : ¬ (39 : Int32) < 0 ∧ ¬ (255 : Int32) < (39 : Int32) := by decide
theorem lr100 : ¬ (100 : Int32) < 0 ∧ ¬ (255 : Int32) < (100 : Int32) := by decide
theorem lr101 : ¬ (101 : Int32) < 0 ∧ ¬ (255 : Int32) < (101 : Int32) := by decide
theorem lr102 : ¬ (102 : Int32) < 0 ∧ ¬ (255 : Int32) < (102 : Int32) := by decide
theorem lr105 : ¬ (105 : Int32) < 0 ∧ ¬ (255 : Int32) < (105 : Int32) := by decide
theorem lr107 : ¬ (107 : Int32) < 0 ∧ ¬ (255 : Int32) < (107 : Int32) := by decide
theorem lr108 : ¬ (108 : Int32) < 0 ∧ ¬ (255 : Int32) < (108 : Int32) := by decide
theorem lr110 : ¬ (110 : Int32) < 0 ∧ ¬ (255 : Int32) < (110 : Int32) := by decide
theorem lr111 : ¬ (111 : Int32) < 0 ∧ ¬ (255 : Int32) < (111 : Int32) := by decide
theorem lr117 : ¬ (117 : Int32) < 0 ∧ ¬ (255 : Int32) < (117 : Int32) := by decide
theorem lr119 : ¬ (119 : Int32) < 0 ∧ ¬ (255 : Int32) < (119 : Int32) := by decide
theorem d_jdk_42m149_0 : decode jdk_42_method_149_code 0 = .ok (.aload_n 0, 1) := by decide +kernel
theorem d_jdk_42m149_1 : decode jdk_42_method_149_code 1 = .ok (.invokespecial 1, 3) := by decide +kernel
theorem wd12 {a0 : Array Value} {Z : State} (hw : HW a0 Z) : ((Jvm.Cond.methodLink "java/lang/String" (1 : Nat) ({ cls := "java/lang/Object", name := "<init>", desc := "()V" } : Jvm.MethodName)) : Jvm.Cond).before a0 Z = true := hw _ (List.mem_of_getElem? (i := 12) rfl)
theorem wd13 {a0 : Array Value} {Z : State} (hw : HW a0 Z) : ((Jvm.Cond.instanceMethod ({ cls := "java/lang/Object", name := "<init>", desc := "()V" } : Jvm.MethodName)) : Jvm.Cond).before a0 Z = true := hw _ (List.mem_of_getElem? (i := 13) rfl)
theorem wd14 {a0 : Array Value} {Z : State} (hw : HW a0 Z) : ((Jvm.Cond.code ({ cls := "java/lang/Object", name := "<init>", desc := "()V" } : Jvm.MethodName) object_method_1_code (1 : Nat) (Option.none : Option Jvm.ClassFile.FieldType)) : Jvm.Cond).before a0 Z = true := hw _ (List.mem_of_getElem? (i := 14) rfl)
theorem d_jdk_42m149_4 : decode jdk_42_method_149_code 4 = .ok (.iload_n 3, 1) := by decide +kernel
theorem d_jdk_42m149_5 : decode jdk_42_method_149_code 5 = .ok (.ifCond .ne 22, 3) := by decide +kernel
theorem d_jdk_42m149_8 : decode jdk_42_method_149_code 8 = .ok (.aload_n 0, 1) := by decide +kernel
theorem d_jdk_42m149_9 : decode jdk_42_method_149_code 9 = .ok (.ldc 7, 2) := by decide +kernel
theorem d_jdk_42m149_11 : decode jdk_42_method_149_code 11 = .ok (.getfield 9, 3) := by decide +kernel
theorem wd21 {a0 : Array Value} {Z : State} (hw : HW a0 Z) : ((Jvm.Cond.fieldLink "java/lang/String" (9 : Nat) "java/lang/String" "value" "[B") : Jvm.Cond).before a0 Z = true := hw _ (List.mem_of_getElem? (i := 21) rfl)
theorem d_jdk_42m149_14 : decode jdk_42_method_149_code 14 = .ok (.putfield 9, 3) := by decide +kernel
theorem wd17 {a0 : Array Value} {Z : State} (hw : HW a0 Z) : ((Jvm.Cond.laysFinal "java/lang/String" "java/lang/String" "value" "[B") : Jvm.Cond).before a0 Z = true := hw _ (List.mem_of_getElem? (i := 17) rfl)
theorem wd2 {a0 : Array Value} {Z : State} (hw : HW a0 Z) : ((Jvm.Cond.instantiable "java/lang/String" (4 : Nat)) : Jvm.Cond).before a0 Z = true := hw _ (List.mem_of_getElem? (i := 2) rfl)
theorem d_jdk_42m149_17 : decode jdk_42_method_149_code 17 = .ok (.aload_n 0, 1) := by decide +kernel
theorem d_jdk_42m149_18 : decode jdk_42_method_149_code 18 = .ok (.ldc 7, 2) := by decide +kernel
theorem d_jdk_42m149_20 : decode jdk_42_method_149_code 20 = .ok (.getfield 15, 3) := by decide +kernel
theorem wd22 {a0 : Array Value} {Z : State} (hw : HW a0 Z) : ((Jvm.Cond.fieldLink "java/lang/String" (15 : Nat) "java/lang/String" "coder" "B") : Jvm.Cond).before a0 Z = true := hw _ (List.mem_of_getElem? (i := 22) rfl)
theorem d_jdk_42m149_23 : decode jdk_42_method_149_code 23 = .ok (.putfield 15, 3) := by decide +kernel
theorem wd18 {a0 : Array Value} {Z : State} (hw : HW a0 Z) : ((Jvm.Cond.laysFinal "java/lang/String" "java/lang/String" "coder" "B") : Jvm.Cond).before a0 Z = true := hw _ (List.mem_of_getElem? (i := 18) rfl)
theorem d_jdk_42m149_26 : decode jdk_42_method_149_code 26 = .ok (.return_, 1) := by decide +kernel
def Q_new4e (Z : State) (zC : Int32) (a1 : Addr) (a2 : Addr) (h0 : Heap) (v : Option Value) (h : Heap) (L : List Loc) : Prop := ∃ (t : Addr), ∃ (kb : ClassId), v = none ∧ Fr Z.heap.size L ∧ Keep h0 h [a1] ∧ Exa Z h a1 sT1 ∧ Fld Z h a1 sT1 "value" "[B" (.ref t) ∧ Fld Z h a1 sT1 "coder" "B" (iv 0) ∧ Arv Z h t kb .byte (0 : Int32) [] (.int 0)
theorem pn0 : plainName "java/lang/String" = true := by first | (simp [plainName, overriddenIn]; done) | decide +kernel
theorem rm_new4e (l : Launch) (Z : State) (a0 : Array Value) (hw : HW a0 Z) (hl : l.stackTraces = true) (zC : Int32) (SC : tSC Z zC) (PC : ¬ zC = (0 : Int32)) (hX : ExW a0 Z) (a1 : Addr) (a2 : Addr) (h0 : Heap) (O0 : Old Z Z.heap.size h0) (P1 : Exa Z h0 a1 sT1) (P2 : Fld Z h0 a1 sT1 "value" "[B" .null) (P3 : Fld Z h0 a1 sT1 "coder" "B" (iv 0)) (P4 : Z.heap.size ≤ a1) :
    ConS l Z EL (⟨sT1, "<init>", "([CIILjava/lang/Void;)V"⟩ : MethodName) jdk_42_method_149_code 6 none ({ frames := 1, cells := 4, slots := 8, locals := 12 } : Room) #[(.ref a1), (.ref a2), (iv 0), (iv 0), .null] h0 [a1] (Q_new4e Z zC a1 a2 h0) := by
  refine ConS.intro (plainFor_of_name pn0) ?_
  intro p e s m below meth c T0 v0 X0 hx hby hml hown0 hnm hret hlk hZ0 e0 hS0 C0 hsl0
  have P5 := hsl0 a1 (by simp)
  have N0 := Fr.nil Z.heap.size
  refine castGo (g' := mkF m 0 #[.val (.ref a1), .val (.ref a2), .val (iv 0), .val (iv 0), .val .null, .unset] []) (by first | rfl | (simp [entryFrame, mkF, argsToLocals, Value.category]; done)) ?_
  show Go _ _ _ _ (T0.setTop (mkF m 0 #[.val (.ref a1), .val (.ref a2), .val (iv 0), .val (iv 0), .val .null, .unset] []))
  refine aL X0 hx (hb hby d_jdk_42m149_0) (q := 1) rfl rfl rfl ?_
  refine g_init0 X0 hx hZ0 hown0 (wd12 hw) (wd13 hw) (wd14 hw) (by rw [hml]; rfl) (by decide) (W := 0) (Nat.le_of_eq rfl) (by decide) e0 (hb hby d_jdk_42m149_1) (q := 4) rfl ?_
  intro T1 X1 e1
  refine iL X1 hx (hb hby d_jdk_42m149_4) (q := 5) rfl rfl ?_
  refine ifN X1 hx (hb hby d_jdk_42m149_5) (q := 8) rfl (by decide) ?_
  refine aL X1 hx (hb hby d_jdk_42m149_8) (q := 9) rfl rfl rfl ?_
  refine g_ldc X1 hx hZ0 hown0 (wd15 hw) (own_wS hw) hS0 (Nat.zero_le _) (own_EW hw) (by simp [EL]) C0.1 (vs := []) (z := (0 : Int32)) ⟨by decide, by decide⟩ (by decide) (by decide) (n := 0) (by decide) (by decide) (by decide) (by decide) e1 (hb hby d_jdk_42m149_9) (q := 11) rfl ?_
  intro b2 T2 h2 kk2 d2 k2 X2 e2 E2 hS2 hk2 hZ2 hown2 A2 Fc2 Fv2 V2 lta2 ltb2 R2 sn2
  refine g_getF X2 hx hZ2 hown2 (host := "") (Or.inl (wd21 hw)) Via.refl Fv2 e2 (hb hby d_jdk_42m149_11) (q := 14) rfl ?_
  intro T3 X3 e3
  have f4 := P2.ext E2
  have f5 := P1.ext E2
  have f7 := C0.trans R2
  have f8 := R2.safe (Nat.lt_of_lt_of_le P1.lt (Nat.le_refl _)) P5
  refine g_putF X3 hx hZ2 hown2 (host := "") (Or.inl (wd21 hw)) Via.refl f4 f5 (Or.inr ⟨(wd17 hw), rfl, hnm⟩) (wd2 hw) (ty := (.array .byte)) (by decide) rfl rfl e3 (hb hby d_jdk_42m149_14) (q := 17) rfl ?_
  intro T6 h6 X6 e6 W6
  have N6 := Fr.snoc X6 N0 P4
  have Fw6 : Fld Z h6 a1 sT1 "value" "[B" (.ref d2) := f4.same W6
  refine aL X6 hx (hb hby d_jdk_42m149_17) (q := 18) rfl rfl rfl ?_
  have f10 := f7.trans (CHr.wr W6 f8 f7.1)
  have le11 := (Nat.le_of_eq (Wr.size W6).symm)
  refine g_ldc X6 hx hZ2 hown2 (wd15 hw) (own_wS hw) hS2 (Nat.le_trans hk2 le11) (own_EW hw) (by simp [EL]) f10.1 (vs := []) (z := (0 : Int32)) ⟨by decide, by decide⟩ (by decide) (by decide) (n := 0) (by decide) (by decide) (by decide) (by decide) e6 (hb hby d_jdk_42m149_18) (q := 20) rfl ?_
  intro b9 T9 h9 kk9 d9 k9 X9 e9 E9 hS9 hk9 hZ9 hown9 A9 Fc9 Fv9 V9 lta9 ltb9 R9 sn9
  refine g_getF X9 hx hZ9 hown9 (host := "") (Or.inl (wd22 hw)) Via.refl Fc9 e9 (hb hby d_jdk_42m149_20) (q := 23) rfl ?_
  intro T12 X12 e12
  have f13 := P3.ext E2
  have f14 := f13.other W6 (Or.inr (slot_ne (Or.inr (wd18 hw)) (Or.inr (wd17 hw)) (by decide) (t := .byte) (t' := (.array .byte)) (by decide) (by decide)))
  have f15 := f14.ext E9
  have f16 := f5.wr W6
  have f17 := f16.ext E9
  have f19 := f10.trans R9
  have f20 := Safe.wr W6 f8 f7.1 f8
  have le21 := E2.1
  have le22 := (Nat.le_trans le21 (Nat.le_of_eq (Wr.size W6).symm))
  have f23 := R9.safe (Nat.lt_of_lt_of_le P1.lt le22) f20
  refine g_putF X12 hx hZ9 hown9 (host := "") (Or.inl (wd22 hw)) Via.refl f15 f17 (Or.inr ⟨(wd18 hw), rfl, hnm⟩) (wd2 hw) (ty := .byte) (by decide) rfl rfl e12 (hb hby d_jdk_42m149_23) (q := 26) rfl ?_
  intro T18 h18 X18 e18 W18
  have N18 := Fr.snoc X18 N6 P4
  have Fw18 : Fld Z h18 a1 sT1 "coder" "B" (iv 0) := f15.same W18
  have K24 : Keep h0 h2 [a1] := (Keep.refl h0 [a1]).ext E2
  have K25 : Keep h0 h6 [a1] := K24.wr W6 (Or.inl (by simp))
  have K26 : Keep h0 h9 [a1] := K25.ext E9
  have K27 : Keep h0 h18 [a1] := K26.wr W18 (Or.inl (by simp))
  have f28 := f17.wr W18
  have f29 := Fw6.ext E9
  have f30 := f29.other W18 (Or.inr (slot_ne (Or.inr (wd17 hw)) (Or.inr (wd18 hw)) (by decide) (t := (.array .byte)) (t' := .byte) (by decide) (by decide)))
  have ne31 : d2 ≠ a1 := (Ne.symm (sn2 _ f8).2)
  have f32 := V2.other W6 ne31
  have f33 := f32.ext E9
  have f34 := f33.other W18 ne31
  have le35 := (Nat.le_of_eq (Wr.size W18).symm)
  have f36 := f19.trans (CHr.wr W18 f23 f19.1)
  refine endC X18 hlk hS9 (by rw [e18]; exact (Nat.le_trans hk9 le35)) hZ9 (own_EW hw) (by rw [e18]; exact f36) (fun _ => rfl) (lastV X18 hx hret (hb hby d_jdk_42m149_26)) ?_ (by decide) (by decide)
  rw [e18]
  exact ⟨d2, k2, rfl, N18, K27, f28, f30, Fw18, f34⟩
theorem d_jdk_42m3_0 : decode jdk_42_method_3_code 0 = .ok (.aload_n 0, 1) := by decide +kernel
theorem d_jdk_42m3_1 : decode jdk_42_method_3_code 1 = .ok (.aload_n 1, 1) := by decide +kernel
theorem d_jdk_42m3_2 : decode jdk_42_method_3_code 2 = .ok (.iconst 0, 1) := by decide +kernel
theorem d_jdk_42m3_3 : decode jdk_42_method_3_code 3 = .ok (.aload_n 1, 1) := by decide +kernel
theorem d_jdk_42m3_4 : decode jdk_42_method_3_code 4 = .ok (.arraylength, 1) := by decide +kernel
theorem d_jdk_42m3_5 : decode jdk_42_method_3_code 5 = .ok (.aconst_null, 1) := by decide +kernel
theorem d_jdk_42m3_6 : decode jdk_42_method_3_code 6 = .ok (.invokespecial 27, 3) := by decide +kernel
theorem wd11 {a0 : Array Value} {Z : State} (hw : HW a0 Z) : ((Jvm.Cond.code ({ cls := "java/lang/String", name := "<init>", desc := "([CIILjava/lang/Void;)V" } : Jvm.MethodName) jdk_42_method_149_code (6 : Nat) (Option.none : Option Jvm.ClassFile.FieldType)) : Jvm.Cond).before a0 Z = true := hw _ (List.mem_of_getElem? (i := 11) rfl)
theorem wd3 {a0 : Array Value} {Z : State} (hw : HW a0 Z) : ((Jvm.Cond.initialized "java/lang/String") : Jvm.Cond).before a0 Z = true := hw _ (List.mem_of_getElem? (i := 3) rfl)
theorem pd0 : parseMethodDescriptor "([CIILjava/lang/Void;)V" = some ⟨[(.array .char), .int, .int, (.object "java/lang/Void")], none⟩ := by decide +kernel
theorem wd8 {a0 : Array Value} {Z : State} (hw : HW a0 Z) : ((Jvm.Cond.methodLink "java/lang/String" (27 : Nat) ({ cls := "java/lang/String", name := "<init>", desc := "([CIILjava/lang/Void;)V" } : Jvm.MethodName)) : Jvm.Cond).before a0 Z = true := hw _ (List.mem_of_getElem? (i := 8) rfl)
theorem wd9 {a0 : Array Value} {Z : State} (hw : HW a0 Z) : ((Jvm.Cond.instanceMethod ({ cls := "java/lang/String", name := "<init>", desc := "([CIILjava/lang/Void;)V" } : Jvm.MethodName)) : Jvm.Cond).before a0 Z = true := hw _ (List.mem_of_getElem? (i := 9) rfl)
theorem d_jdk_42m3_9 : decode jdk_42_method_3_code 9 = .ok (.return_, 1) := by decide +kernel
def Q_new1e (Z : State) (zC : Int32) (a1 : Addr) (a2 : Addr) (kc : ClassId) (cl : List Value) (h0 : Heap) (v : Option Value) (h : Heap) (L : List Loc) : Prop := ∃ (t : Addr), ∃ (kb : ClassId), v = none ∧ Fr Z.heap.size L ∧ Keep h0 h [a1] ∧ Exa Z h a1 sT1 ∧ Fld Z h a1 sT1 "value" "[B" (.ref t) ∧ Fld Z h a1 sT1 "coder" "B" (iv 0) ∧ Arv Z h t kb .byte (0 : Int32) [] (.int 0)
theorem rm_new1e (l : Launch) (Z : State) (a0 : Array Value) (hw : HW a0 Z) (hl : l.stackTraces = true) (zC : Int32) (SC : tSC Z zC) (PC : ¬ zC = (0 : Int32)) (hX : ExW a0 Z) (a1 : Addr) (a2 : Addr) (kc : ClassId) (cl : List Value) (h0 : Heap) (O0 : Old Z Z.heap.size h0) (P1 : Exa Z h0 a1 sT1) (P2 : Fld Z h0 a1 sT1 "value" "[B" .null) (P3 : Fld Z h0 a1 sT1 "coder" "B" (iv 0)) (P4 : Z.heap.size ≤ a1) (P6 : Arv Z h0 a2 kc .char (0 : Int32) cl (.int 0)) :
    ConS l Z EL (⟨sT1, "<init>", "([C)V"⟩ : MethodName) jdk_42_method_3_code 2 none ({ frames := 2, cells := 4, slots := 8, locals := 29 } : Room) #[(.ref a1), (.ref a2)] h0 [a1] (Q_new1e Z zC a1 a2 kc cl h0) := by
  refine ConS.intro (plainFor_of_name pn0) ?_
  intro p e s m below meth c T0 v0 X0 hx hby hml hown0 hnm hret hlk hZ0 e0 hS0 C0 hsl0
  have P5 := hsl0 a1 (by simp)
  have N0 := Fr.nil Z.heap.size
  refine castGo (g' := mkF m 0 #[.val (.ref a1), .val (.ref a2)] []) (by first | rfl | (simp [entryFrame, mkF, argsToLocals, Value.category]; done)) ?_
  show Go _ _ _ _ (T0.setTop (mkF m 0 #[.val (.ref a1), .val (.ref a2)] []))
  refine aL X0 hx (hb hby d_jdk_42m3_0) (q := 1) rfl rfl rfl ?_
  refine aL X0 hx (hb hby d_jdk_42m3_1) (q := 2) rfl rfl rfl ?_
  refine cI X0 hx (hb hby d_jdk_42m3_2) (q := 3) rfl (z := (0 : Int32)) rfl ?_
  refine aL X0 hx (hb hby d_jdk_42m3_3) (q := 4) rfl rfl rfl ?_
  refine g_len X0 hx hZ0 P6 e0 (hb hby d_jdk_42m3_4) (q := 5) rfl ?_
  refine cN X0 hx (hb hby d_jdk_42m3_5) (q := 6) rfl ?_
  refine g_spS X0 hx hZ0 hown0 hS0 (Nat.zero_le _) (wd8 hw) (wd9 hw) (wd11 hw) rfl (by decide) e0 (ConS.back (W := 0) (rm_new4e l Z a0 hw hl zC SC PC hX a1 a2 h0 O0 P1 P2 P3 P4) hZ0 (wd11 hw) (wd3 hw) (by decide) (by decide) (own_EW hw) C0.1 (sfS P5 sf0) (allS (Nat.lt_of_lt_of_le P1.lt (Nat.le_refl _)) all0)) (by rw [hml]; rfl) (lenOf pd0 rfl) rfl (Nat.le_of_eq rfl) (hb hby d_jdk_42m3_6) (q := 9) rfl (by decide) (by decide) ?_
  rintro v37 T37 L37 ⟨X37, hS37, hZ37, hown37, R37⟩ Q37
  obtain ⟨t_37, kb_37, rfl, Nq37, K37q, q37_0, q37_1, q37_2, q37_3⟩ := Q37
  have N37 := Fr.app N0 Nq37
  show Go _ _ _ _ (T37.setTop (mkF m 9 #[.val (.ref a1), .val (.ref a2)] []))
  have K38 : Keep h0 T37.heap [a1] := (Keep.refl h0 [a1]).trans K37q (allS (Or.inl (by simp)) all0)
  have f39 := C0.trans R37
  refine endC X37 hlk hS37 (Nat.le_trans (Nat.le_refl _) (Nat.le_refl _)) hZ37 (own_EW hw) f39 (fun _ => rfl) (lastV X37 hx hret (hb hby d_jdk_42m3_9)) ?_ (by decide) (by decide)
  exact ⟨t_37, kb_37, rfl, N37, K38, q37_0, q37_1, q37_2, q37_3⟩
theorem d_jdk_42m152_0 : decode jdk_42_method_152_code 0 = .ok (.getstatic 38, 3) := by decide +kernel
theorem wd69 {a0 : Array Value} {Z : State} (hw : HW a0 Z) : ((Jvm.Cond.fieldLink "java/lang/String" (38 : Nat) "java/lang/String" "COMPACT_STRINGS" "Z") : Jvm.Cond).before a0 Z = true := hw _ (List.mem_of_getElem? (i := 69) rfl)
theorem d_jdk_42m152_3 : decode jdk_42_method_152_code 3 = .ok (.ifCond .eq 10, 3) := by decide +kernel
theorem d_jdk_42m152_6 : decode jdk_42_method_152_code 6 = .ok (.aload_n 0, 1) := by decide +kernel
theorem d_jdk_42m152_7 : decode jdk_42_method_152_code 7 = .ok (.getfield 15, 3) := by decide +kernel
theorem d_jdk_42m152_10 : decode jdk_42_method_152_code 10 = .ok (.goto 4, 3) := by decide +kernel
theorem d_jdk_42m152_14 : decode jdk_42_method_152_code 14 = .ok (.ireturn, 1) := by decide +kernel
def Q_coder0 (Z : State) (zC : Int32) (a1 : Addr) (h0 : Heap) (v : Option Value) (h : Heap) (L : List Loc) : Prop := v = some (iv 0) ∧ Fr Z.heap.size L ∧ h = h0
theorem rm_coder0 (l : Launch) (Z : State) (a0 : Array Value) (hw : HW a0 Z) (hl : l.stackTraces = true) (zC : Int32) (SC : tSC Z zC) (PC : ¬ zC = (0 : Int32)) (hX : ExW a0 Z) (a1 : Addr) (h0 : Heap) (O0 : Old Z Z.heap.size h0) (P1 : Fld Z h0 a1 sT1 "coder" "B" (iv 0)) :
    Con l Z (⟨sT1, "coder", "()B"⟩ : MethodName) jdk_42_method_152_code 1 (some .byte) ({ frames := 0, cells := 0, slots := 0, locals := 0 } : Room) #[(.ref a1)] h0 (Q_coder0 Z zC a1 h0) := by
  refine Con.intro (plainFor_of_name pn0) ?_
  intro p e s m below meth c T0 X0 hx hby hml hown0 hnm hret hlk hZ0 e0
  have N0 := Fr.nil Z.heap.size
  refine castGo (g' := mkF m 0 #[.val (.ref a1)] []) (by first | rfl | (simp [entryFrame, mkF, argsToLocals, Value.category]; done)) ?_
  show Go _ _ _ _ (T0.setTop (mkF m 0 #[.val (.ref a1)] []))
  refine g_getS X0 hx hZ0 hown0 (host := "") (Or.inl (wd69 hw)) Via.refl (SC.ext O0.2) e0 (hb hby d_jdk_42m152_0) (q := 3) rfl ?_
  intro T40 X40 e40
  refine ifN X40 hx (hb hby d_jdk_42m152_3) (q := 6) rfl ((if0 _ _).trans (feq PC).1) ?_
  refine aL X40 hx (hb hby d_jdk_42m152_6) (q := 7) rfl rfl rfl ?_
  refine g_getF X40 hx hZ0 hown0 (host := "") (Or.inl (wd22 hw)) Via.refl P1 e40 (hb hby d_jdk_42m152_7) (q := 10) rfl ?_
  intro T41 X41 e41
  refine g_goto X41 hx (hb hby d_jdk_42m152_10) (q := 14) (by decide) (by decide) ?_
  refine endP X41 hlk (fun h => by rw [hret] at h; cases h) (lastN X41 hx (t := .byte) (z' := (0 : Int32)) hret (by simp) (by decide) (hb hby d_jdk_42m152_14)) ?_ (by decide) (by decide)
  rw [e41]
  exact ⟨rfl, N0, rfl⟩
theorem d_jdk_42m54_0 : decode jdk_42_method_54_code 0 = .ok (.aload_n 0, 1) := by decide +kernel
theorem d_jdk_42m54_1 : decode jdk_42_method_54_code 1 = .ok (.getfield 9, 3) := by decide +kernel
theorem d_jdk_42m54_4 : decode jdk_42_method_54_code 4 = .ok (.arraylength, 1) := by decide +kernel
theorem d_jdk_42m54_5 : decode jdk_42_method_54_code 5 = .ok (.aload_n 0, 1) := by decide +kernel
theorem d_jdk_42m54_6 : decode jdk_42_method_54_code 6 = .ok (.invokevirtual 335, 3) := by decide +kernel
theorem wd68 {a0 : Array Value} {Z : State} (hw : HW a0 Z) : ((Jvm.Cond.code ({ cls := "java/lang/String", name := "coder", desc := "()B" } : Jvm.MethodName) jdk_42_method_152_code (1 : Nat) (Option.some Jvm.ClassFile.FieldType.byte)) : Jvm.Cond).before a0 Z = true := hw _ (List.mem_of_getElem? (i := 68) rfl)
theorem pd1 : parseMethodDescriptor "()B" = some ⟨[], some .byte⟩ := by decide +kernel
theorem wd67 {a0 : Array Value} {Z : State} (hw : HW a0 Z) : ((Jvm.Cond.selects "java/lang/String" ({ cls := "java/lang/String", name := "coder", desc := "()B" } : Jvm.MethodName) ({ cls := "java/lang/String", name := "coder", desc := "()B" } : Jvm.MethodName)) : Jvm.Cond).before a0 Z = true := hw _ (List.mem_of_getElem? (i := 67) rfl)
theorem wd64 {a0 : Array Value} {Z : State} (hw : HW a0 Z) : ((Jvm.Cond.methodLink "java/lang/String" (335 : Nat) ({ cls := "java/lang/String", name := "coder", desc := "()B" } : Jvm.MethodName)) : Jvm.Cond).before a0 Z = true := hw _ (List.mem_of_getElem? (i := 64) rfl)
theorem wd65 {a0 : Array Value} {Z : State} (hw : HW a0 Z) : ((Jvm.Cond.declares ({ cls := "java/lang/String", name := "coder", desc := "()B" } : Jvm.MethodName)) : Jvm.Cond).before a0 Z = true := hw _ (List.mem_of_getElem? (i := 65) rfl)
theorem wd66 {a0 : Array Value} {Z : State} (hw : HW a0 Z) : ((Jvm.Cond.instanceMethod ({ cls := "java/lang/String", name := "coder", desc := "()B" } : Jvm.MethodName)) : Jvm.Cond).before a0 Z = true := hw _ (List.mem_of_getElem? (i := 66) rfl)
theorem d_jdk_42m54_9 : decode jdk_42_method_54_code 9 = .ok (.ishr, 1) := by decide +kernel
theorem d_jdk_42m54_10 : decode jdk_42_method_54_code 10 = .ok (.ireturn, 1) := by decide +kernel
def Q_slen (Z : State) (zC : Int32) (a1 : Addr) (t : Addr) (kb : ClassId) (us : List Value) (zz : Int32) (h0 : Heap) (v : Option Value) (h : Heap) (L : List Loc) : Prop := v = some (.int zz) ∧ Fr Z.heap.size L ∧ h = h0
theorem rm_slen (l : Launch) (Z : State) (a0 : Array Value) (hw : HW a0 Z) (hl : l.stackTraces = true) (zC : Int32) (SC : tSC Z zC) (PC : ¬ zC = (0 : Int32)) (hX : ExW a0 Z) (a1 : Addr) (t : Addr) (kb : ClassId) (us : List Value) (zz : Int32) (h0 : Heap) (O0 : Old Z Z.heap.size h0) (Pe : Exa Z h0 a1 sT1) (Pc : Fld Z h0 a1 sT1 "coder" "B" (iv 0)) (Pv : Fld Z h0 a1 sT1 "value" "[B" (.ref t)) (Pa : Arv Z h0 t kb .byte zz us (.int 0)) :
    Con l Z (⟨sT1, "length", "()I"⟩ : MethodName) jdk_42_method_54_code 1 (some .int) ({ frames := 1, cells := 0, slots := 0, locals := 13 } : Room) #[(.ref a1)] h0 (Q_slen Z zC a1 t kb us zz h0) := by
  refine Con.intro (plainFor_of_name pn0) ?_
  intro p e s m below meth c T0 X0 hx hby hml hown0 hnm hret hlk hZ0 e0
  have N0 := Fr.nil Z.heap.size
  refine castGo (g' := mkF m 0 #[.val (.ref a1)] []) (by first | rfl | (simp [entryFrame, mkF, argsToLocals, Value.category]; done)) ?_
  show Go _ _ _ _ (T0.setTop (mkF m 0 #[.val (.ref a1)] []))
  refine aL X0 hx (hb hby d_jdk_42m54_0) (q := 1) rfl rfl rfl ?_
  refine g_getF X0 hx hZ0 hown0 (host := "") (Or.inl (wd21 hw)) Via.refl Pv e0 (hb hby d_jdk_42m54_1) (q := 4) rfl ?_
  intro T42 X42 e42
  refine g_len X42 hx hZ0 Pa e42 (hb hby d_jdk_42m54_4) (q := 5) rfl ?_
  refine aL X42 hx (hb hby d_jdk_42m54_5) (q := 6) rfl rfl rfl ?_
  refine g_vi X42 hx hZ0 hown0 (wd64 hw) (wd65 hw) (notFace_of_selects (args := #[]) (mvT hZ0 (wd67 hw))) (wd67 hw) (wd66 hw) (by decide) Pe e42 (Con.back (W := 1) (rm_coder0 l Z a0 hw hl zC SC PC hX a1 h0 O0 Pc) hZ0 (wd68 hw) (wd3 hw) (by decide) (by decide)) (by rw [hml]; rfl) (lenOf pd1 rfl) rfl (Nat.le_of_eq rfl) (hb hby d_jdk_42m54_6) (q := 9) rfl (by decide) (by decide) ?_
  intro v43 T43 L43 X43 Q43
  obtain ⟨rfl, Nq43, e43⟩ := Q43
  have N43 := Fr.app N0 Nq43
  show Go _ _ _ _ (T43.setTop (mkF m 9 #[.val (.ref a1)] [(iv 0), (.int zz)]))
  refine g_ishr X43 hx (hb hby d_jdk_42m54_9) (q := 10) rfl (z := zz) (shr_zero _) ?_
  refine endP X43 hlk (fun h => by rw [hret] at h; cases h) (lastI X43 hx hret (hb hby d_jdk_42m54_10)) ?_ (by decide) (by decide)
  rw [e43]
  exact ⟨rfl, N43, rfl⟩
theorem d_jdk_68m2_0 : decode jdk_68_method_2_code 0 = .ok (.aload_n 0, 1) := by decide +kernel
theorem d_jdk_68m2_1 : decode jdk_68_method_2_code 1 = .ok (.invokespecial 3, 3) := by decide +kernel
theorem wd42 {a0 : Array Value} {Z : State} (hw : HW a0 Z) : ((Jvm.Cond.methodLink "java/lang/AbstractStringBuilder" (3 : Nat) ({ cls := "java/lang/Object", name := "<init>", desc := "()V" } : Jvm.MethodName)) : Jvm.Cond).before a0 Z = true := hw _ (List.mem_of_getElem? (i := 42) rfl)
theorem d_jdk_68m2_4 : decode jdk_68_method_2_code 4 = .ok (.getstatic 18, 3) := by decide +kernel
theorem wd43 {a0 : Array Value} {Z : State} (hw : HW a0 Z) : ((Jvm.Cond.fieldLink "java/lang/AbstractStringBuilder" (18 : Nat) "java/lang/String" "COMPACT_STRINGS" "Z") : Jvm.Cond).before a0 Z = true := hw _ (List.mem_of_getElem? (i := 43) rfl)
theorem d_jdk_68m2_7 : decode jdk_68_method_2_code 7 = .ok (.ifCond .eq 18, 3) := by decide +kernel
theorem d_jdk_68m2_10 : decode jdk_68_method_2_code 10 = .ok (.aload_n 0, 1) := by decide +kernel
theorem d_jdk_68m2_11 : decode jdk_68_method_2_code 11 = .ok (.iload_n 1, 1) := by decide +kernel
theorem d_jdk_68m2_12 : decode jdk_68_method_2_code 12 = .ok (.newarray .byte, 2) := by decide +kernel
theorem wd16 {a0 : Array Value} {Z : State} (hw : HW a0 Z) : ((Jvm.Cond.arrayClass Jvm.ClassFile.FieldType.byte) : Jvm.Cond).before a0 Z = true := hw _ (List.mem_of_getElem? (i := 16) rfl)
theorem d_jdk_68m2_14 : decode jdk_68_method_2_code 14 = .ok (.putfield 15, 3) := by decide +kernel
theorem wd44 {a0 : Array Value} {Z : State} (hw : HW a0 Z) : ((Jvm.Cond.fieldLink "java/lang/AbstractStringBuilder" (15 : Nat) "java/lang/AbstractStringBuilder" "value" "[B") : Jvm.Cond).before a0 Z = true := hw _ (List.mem_of_getElem? (i := 44) rfl)
theorem wd45 {a0 : Array Value} {Z : State} (hw : HW a0 Z) : ((Jvm.Cond.lays "java/lang/StringBuilder" "java/lang/AbstractStringBuilder" "value" "[B") : Jvm.Cond).before a0 Z = true := hw _ (List.mem_of_getElem? (i := 45) rfl)
theorem wd31 {a0 : Array Value} {Z : State} (hw : HW a0 Z) : ((Jvm.Cond.instantiable "java/lang/StringBuilder" (4 : Nat)) : Jvm.Cond).before a0 Z = true := hw _ (List.mem_of_getElem? (i := 31) rfl)
theorem d_jdk_68m2_17 : decode jdk_68_method_2_code 17 = .ok (.aload_n 0, 1) := by decide +kernel
theorem d_jdk_68m2_18 : decode jdk_68_method_2_code 18 = .ok (.iconst 0, 1) := by decide +kernel
theorem d_jdk_68m2_19 : decode jdk_68_method_2_code 19 = .ok (.putfield 22, 3) := by decide +kernel
theorem wd46 {a0 : Array Value} {Z : State} (hw : HW a0 Z) : ((Jvm.Cond.fieldLink "java/lang/AbstractStringBuilder" (22 : Nat) "java/lang/AbstractStringBuilder" "coder" "B") : Jvm.Cond).before a0 Z = true := hw _ (List.mem_of_getElem? (i := 46) rfl)
theorem wd47 {a0 : Array Value} {Z : State} (hw : HW a0 Z) : ((Jvm.Cond.lays "java/lang/StringBuilder" "java/lang/AbstractStringBuilder" "coder" "B") : Jvm.Cond).before a0 Z = true := hw _ (List.mem_of_getElem? (i := 47) rfl)
theorem d_jdk_68m2_22 : decode jdk_68_method_2_code 22 = .ok (.goto 16, 3) := by decide +kernel
theorem d_jdk_68m2_38 : decode jdk_68_method_2_code 38 = .ok (.return_, 1) := by decide +kernel
theorem wd71 {a0 : Array Value} {Z : State} (hw : HW a0 Z) : ((Jvm.Cond.lays "java/lang/StringBuilder" "java/lang/AbstractStringBuilder" "count" "I") : Jvm.Cond).before a0 Z = true := hw _ (List.mem_of_getElem? (i := 71) rfl)
def Q_asbinit (Z : State) (zC : Int32) (a1 : Addr) (h0 : Heap) (v : Option Value) (h : Heap) (L : List Loc) : Prop := ∃ (vv : Addr), ∃ (kv : ClassId), v = none ∧ Fr Z.heap.size L ∧ Keep h0 h [a1] ∧ Exa Z h a1 sT2 ∧ Fld Z h a1 sT0 "value" "[B" (.ref vv) ∧ Fld Z h a1 sT0 "coder" "B" (iv 0) ∧ Fld Z h a1 sT0 "count" "I" (iv 0) ∧ h0.size ≤ vv ∧ Arv Z h vv kv .byte (16 : Int32) (List.replicate 16 (iv 0)) (.int 0) ∧ Exa Z h vv "[B"
theorem pn1 : plainName "java/lang/AbstractStringBuilder" = true := by first | (simp [plainName, overriddenIn]; done) | decide +kernel
theorem rm_asbinit (l : Launch) (Z : State) (a0 : Array Value) (hw : HW a0 Z) (hl : l.stackTraces = true) (zC : Int32) (SC : tSC Z zC) (PC : ¬ zC = (0 : Int32)) (hX : ExW a0 Z) (a1 : Addr) (h0 : Heap) (O0 : Old Z Z.heap.size h0) (P1 : Exa Z h0 a1 sT2) (P2 : Fld Z h0 a1 sT0 "value" "[B" .null) (P3 : Fld Z h0 a1 sT0 "coder" "B" (iv 0)) (P4 : Fld Z h0 a1 sT0 "count" "I" (iv 0)) (P5 : Z.heap.size ≤ a1) :
    Con l Z (⟨sT0, "<init>", "(I)V"⟩ : MethodName) jdk_68_method_2_code 2 none ({ frames := 1, cells := 1, slots := 16, locals := 12 } : Room) #[(.ref a1), (iv 16)] h0 (Q_asbinit Z zC a1 h0) := by
  refine Con.intro (plainFor_of_name pn1) ?_
  intro p e s m below meth c T0 X0 hx hby hml hown0 hnm hret hlk hZ0 e0
  have N0 := Fr.nil Z.heap.size
  refine castGo (g' := mkF m 0 #[.val (.ref a1), .val (iv 16)] []) (by first | rfl | (simp [entryFrame, mkF, argsToLocals, Value.category]; done)) ?_
  show Go _ _ _ _ (T0.setTop (mkF m 0 #[.val (.ref a1), .val (iv 16)] []))
  refine aL X0 hx (hb hby d_jdk_68m2_0) (q := 1) rfl rfl rfl ?_
  refine g_init0 X0 hx hZ0 hown0 (wd42 hw) (wd13 hw) (wd14 hw) (by rw [hml]; rfl) (by decide) (W := 0) (Nat.le_of_eq rfl) (by decide) e0 (hb hby d_jdk_68m2_1) (q := 4) rfl ?_
  intro T44 X44 e44
  refine g_getS X44 hx hZ0 hown0 (host := "") (Or.inl (wd43 hw)) Via.refl (SC.ext O0.2) e44 (hb hby d_jdk_68m2_4) (q := 7) rfl ?_
  intro T45 X45 e45
  refine ifN X45 hx (hb hby d_jdk_68m2_7) (q := 10) rfl ((if0 _ _).trans (feq PC).1) ?_
  refine aL X45 hx (hb hby d_jdk_68m2_10) (q := 11) rfl rfl rfl ?_
  refine iL X45 hx (hb hby d_jdk_68m2_11) (q := 12) rfl rfl ?_
  refine g_newE X45 hx hZ0 (aty := .byte) (wd16 hw) (by decide) (n := 16) (by decide) (by decide) (by decide) (by decide) (ad := "[B") (by decide) e45 (hb hby d_jdk_68m2_12) (q := 14) rfl ?_
  intro T46 h46 k46 b46 g46 X46 e46 E46 V46 G46
  have Va46 : Arv Z h46 b46 k46 .byte (16 : Int32) (List.replicate 16 (iv 0)) (.int 0) := V46
  have f47 := P2.ext E46
  have f48 := P1.ext E46
  refine g_putF X46 hx hZ0 hown0 (host := "") (Or.inl (wd44 hw)) Via.refl f47 f48 (Or.inl (wd45 hw)) (wd31 hw) (ty := (.array .byte)) (by decide) rfl rfl e46 (hb hby d_jdk_68m2_14) (q := 17) rfl ?_
  intro T49 h49 X49 e49 W49
  have N49 := Fr.snoc X49 N0 P5
  have Fw49 : Fld Z h49 a1 sT0 "value" "[B" (.ref b46) := f47.same W49
  refine aL X49 hx (hb hby d_jdk_68m2_17) (q := 18) rfl rfl rfl ?_
  refine cI X49 hx (hb hby d_jdk_68m2_18) (q := 19) rfl (z := (0 : Int32)) rfl ?_
  have f50 := P3.ext E46
  have f51 := f50.other W49 (Or.inr (slot_ne (Or.inl (wd47 hw)) (Or.inl (wd45 hw)) (by decide) (t := .byte) (t' := (.array .byte)) (by decide) (by decide)))
  have f52 := f48.wr W49
  refine g_putF X49 hx hZ0 hown0 (host := "") (Or.inl (wd46 hw)) Via.refl f51 f52 (Or.inl (wd47 hw)) (wd31 hw) (ty := .byte) (by decide) rfl rfl e49 (hb hby d_jdk_68m2_19) (q := 22) rfl ?_
  intro T53 h53 X53 e53 W53
  have N53 := Fr.snoc X53 N49 P5
  have Fw53 : Fld Z h53 a1 sT0 "coder" "B" (iv 0) := f51.same W53
  refine g_goto X53 hx (hb hby d_jdk_68m2_22) (q := 38) (by decide) (by decide) ?_
  have K54 : Keep h0 h46 [a1] := (Keep.refl h0 [a1]).ext E46
  have K55 : Keep h0 h49 [a1] := K54.wr W49 (Or.inl (by simp))
  have K56 : Keep h0 h53 [a1] := K55.wr W53 (Or.inl (by simp))
  have f57 := f52.wr W53
  have f58 := Fw49.other W53 (Or.inr (slot_ne (Or.inl (wd45 hw)) (Or.inl (wd47 hw)) (by decide) (t := (.array .byte)) (t' := .byte) (by decide) (by decide)))
  have f59 := P4.ext E46
  have f60 := f59.other W49 (Or.inr (slot_ne (Or.inl (wd71 hw)) (Or.inl (wd45 hw)) (by decide) (t := .int) (t' := (.array .byte)) (by decide) (by decide)))
  have f61 := f60.other W53 (Or.inr (slot_ne (Or.inl (wd71 hw)) (Or.inl (wd47 hw)) (by decide) (t := .int) (t' := .byte) (by decide) (by decide)))
  have gh62 : h0.size ≤ b46 := Nat.le_trans (Nat.le_refl _) (Nat.le_of_eq g46.symm)
  have ne63 : b46 ≠ a1 := (Nat.ne_of_gt (Nat.lt_of_lt_of_le (Nat.lt_of_lt_of_le P1.lt (Nat.le_refl _)) (Nat.le_of_eq g46.symm)))
  have f64 := Va46.other W49 ne63
  have f65 := f64.other W53 ne63
  have f66 := G46.wr W49
  have f67 := f66.wr W53
  refine endP X53 hlk (fun _ => rfl) (lastV X53 hx hret (hb hby d_jdk_68m2_38)) ?_ (by decide) (by decide)
  rw [e53]
  exact ⟨b46, k46, rfl, N53, K56, f57, f58, Fw53, f61, gh62, f65, f67⟩
theorem d_jdk_67m1_0 : decode jdk_67_method_1_code 0 = .ok (.aload_n 0, 1) := by decide +kernel
theorem d_jdk_67m1_1 : decode jdk_67_method_1_code 1 = .ok (.bipush 16, 2) := by decide +kernel
theorem d_jdk_67m1_3 : decode jdk_67_method_1_code 3 = .ok (.invokespecial 1, 3) := by decide +kernel
theorem wd41 {a0 : Array Value} {Z : State} (hw : HW a0 Z) : ((Jvm.Cond.code ({ cls := "java/lang/AbstractStringBuilder", name := "<init>", desc := "(I)V" } : Jvm.MethodName) jdk_68_method_2_code (2 : Nat) (Option.none : Option Jvm.ClassFile.FieldType)) : Jvm.Cond).before a0 Z = true := hw _ (List.mem_of_getElem? (i := 41) rfl)
theorem wd40 {a0 : Array Value} {Z : State} (hw : HW a0 Z) : ((Jvm.Cond.initialized "java/lang/AbstractStringBuilder") : Jvm.Cond).before a0 Z = true := hw _ (List.mem_of_getElem? (i := 40) rfl)
theorem pd2 : parseMethodDescriptor "(I)V" = some ⟨[.int], none⟩ := by decide +kernel
theorem wd36 {a0 : Array Value} {Z : State} (hw : HW a0 Z) : ((Jvm.Cond.methodLink "java/lang/StringBuilder" (1 : Nat) ({ cls := "java/lang/AbstractStringBuilder", name := "<init>", desc := "(I)V" } : Jvm.MethodName)) : Jvm.Cond).before a0 Z = true := hw _ (List.mem_of_getElem? (i := 36) rfl)
theorem wd37 {a0 : Array Value} {Z : State} (hw : HW a0 Z) : ((Jvm.Cond.instanceMethod ({ cls := "java/lang/AbstractStringBuilder", name := "<init>", desc := "(I)V" } : Jvm.MethodName)) : Jvm.Cond).before a0 Z = true := hw _ (List.mem_of_getElem? (i := 37) rfl)
theorem d_jdk_67m1_6 : decode jdk_67_method_1_code 6 = .ok (.return_, 1) := by decide +kernel
def Q_sbinit (Z : State) (zC : Int32) (a1 : Addr) (h0 : Heap) (v : Option Value) (h : Heap) (L : List Loc) : Prop := ∃ (vv : Addr), ∃ (kv : ClassId), v = none ∧ Fr Z.heap.size L ∧ Keep h0 h [a1] ∧ Exa Z h a1 sT2 ∧ Fld Z h a1 sT0 "value" "[B" (.ref vv) ∧ Fld Z h a1 sT0 "coder" "B" (iv 0) ∧ Fld Z h a1 sT0 "count" "I" (iv 0) ∧ h0.size ≤ vv ∧ Arv Z h vv kv .byte (16 : Int32) (List.replicate 16 (iv 0)) (.int 0) ∧ Exa Z h vv "[B"
theorem pn2 : plainName "java/lang/StringBuilder" = true := by first | (simp [plainName, overriddenIn]; done) | decide +kernel
theorem rm_sbinit (l : Launch) (Z : State) (a0 : Array Value) (hw : HW a0 Z) (hl : l.stackTraces = true) (zC : Int32) (SC : tSC Z zC) (PC : ¬ zC = (0 : Int32)) (hX : ExW a0 Z) (a1 : Addr) (h0 : Heap) (O0 : Old Z Z.heap.size h0) (P1 : Exa Z h0 a1 sT2) (P2 : Fld Z h0 a1 sT0 "value" "[B" .null) (P3 : Fld Z h0 a1 sT0 "coder" "B" (iv 0)) (P4 : Fld Z h0 a1 sT0 "count" "I" (iv 0)) (P5 : Z.heap.size ≤ a1) :
    Con l Z (⟨sT2, "<init>", "()V"⟩ : MethodName) jdk_67_method_1_code 1 none ({ frames := 2, cells := 1, slots := 16, locals := 25 } : Room) #[(.ref a1)] h0 (Q_sbinit Z zC a1 h0) := by
  refine Con.intro (plainFor_of_name pn2) ?_
  intro p e s m below meth c T0 X0 hx hby hml hown0 hnm hret hlk hZ0 e0
  have N0 := Fr.nil Z.heap.size
  refine castGo (g' := mkF m 0 #[.val (.ref a1)] []) (by first | rfl | (simp [entryFrame, mkF, argsToLocals, Value.category]; done)) ?_
  show Go _ _ _ _ (T0.setTop (mkF m 0 #[.val (.ref a1)] []))
  refine aL X0 hx (hb hby d_jdk_67m1_0) (q := 1) rfl rfl rfl ?_
  refine bI X0 hx (hb hby d_jdk_67m1_1) (q := 3) rfl (z := (16 : Int32)) rfl ?_
  refine g_sp X0 hx hZ0 hown0 (wd36 hw) (wd37 hw) (wd41 hw) rfl (by decide) e0 (Con.back (W := 0) (rm_asbinit l Z a0 hw hl zC SC PC hX a1 h0 O0 P1 P2 P3 P4 P5) hZ0 (wd41 hw) (wd40 hw) (by decide) (by decide)) (by rw [hml]; rfl) (lenOf pd2 rfl) rfl (Nat.le_of_eq rfl) (hb hby d_jdk_67m1_3) (q := 6) rfl (by decide) (by decide) ?_
  intro v68 T68 L68 X68 Q68
  obtain ⟨vv_68, kv_68, rfl, Nq68, K68q, q68_0, q68_1, q68_2, q68_3, q68_4, q68_5, q68_6⟩ := Q68
  have N68 := Fr.app N0 Nq68
  show Go _ _ _ _ (T68.setTop (mkF m 6 #[.val (.ref a1)] []))
  have K69 : Keep h0 T68.heap [a1] := (Keep.refl h0 [a1]).trans K68q (allS (Or.inl (by simp)) all0)
  have gh70 : h0.size ≤ vv_68 := Nat.le_trans (Nat.le_refl _) q68_4
  refine endP X68 hlk (fun _ => rfl) (lastV X68 hx hret (hb hby d_jdk_67m1_6)) ?_ (by decide) (by decide)
  exact ⟨vv_68, kv_68, rfl, N68, K69, q68_0, q68_1, q68_2, q68_3, gh70, q68_5, q68_6⟩
theorem d_jdk_68m9_0 : decode jdk_68_method_9_code 0 = .ok (.aload_n 0, 1) := by decide +kernel
theorem d_jdk_68m9_1 : decode jdk_68_method_9_code 1 = .ok (.getfield 15, 3) := by decide +kernel
theorem d_jdk_68m9_4 : decode jdk_68_method_9_code 4 = .ok (.arraylength, 1) := by decide +kernel
theorem d_jdk_68m9_5 : decode jdk_68_method_9_code 5 = .ok (.aload_n 0, 1) := by decide +kernel
theorem d_jdk_68m9_6 : decode jdk_68_method_9_code 6 = .ok (.getfield 22, 3) := by decide +kernel
theorem d_jdk_68m9_9 : decode jdk_68_method_9_code 9 = .ok (.ishr, 1) := by decide +kernel
theorem d_jdk_68m9_10 : decode jdk_68_method_9_code 10 = .ok (.istore_n 2, 1) := by decide +kernel
theorem d_jdk_68m9_11 : decode jdk_68_method_9_code 11 = .ok (.iload_n 1, 1) := by decide +kernel
theorem d_jdk_68m9_12 : decode jdk_68_method_9_code 12 = .ok (.iload_n 2, 1) := by decide +kernel
theorem d_jdk_68m9_13 : decode jdk_68_method_9_code 13 = .ok (.isub, 1) := by decide +kernel
theorem d_jdk_68m9_14 : decode jdk_68_method_9_code 14 = .ok (.ifCond .le 24, 3) := by decide +kernel
theorem d_jdk_68m9_38 : decode jdk_68_method_9_code 38 = .ok (.return_, 1) := by decide +kernel
def Q_ensf16 (Z : State) (zC : Int32) (a1 : Addr) (vv : Addr) (kv : ClassId) (vd : List Value) (fn : Int32) (h0 : Heap) (v : Option Value) (h : Heap) (L : List Loc) : Prop := v = none ∧ Fr Z.heap.size L ∧ h = h0
theorem rm_ensf16 (l : Launch) (Z : State) (a0 : Array Value) (hw : HW a0 Z) (hl : l.stackTraces = true) (zC : Int32) (SC : tSC Z zC) (PC : ¬ zC = (0 : Int32)) (hX : ExW a0 Z) (a1 : Addr) (vv : Addr) (kv : ClassId) (vd : List Value) (fn : Int32) (h0 : Heap) (O0 : Old Z Z.heap.size h0) (Qe : Exa Z h0 a1 sT2) (Qc : Fld Z h0 a1 sT0 "coder" "B" (iv 0)) (Qv : Fld Z h0 a1 sT0 "value" "[B" (.ref vv)) (Qa : Arv Z h0 vv kv .byte (16 : Int32) vd (.int 0)) (hfn : (fn = (15 : Int32) ∨ fn = (16 : Int32))) :
    Con l Z (⟨sT0, "ensureCapacityInternal", "(I)V"⟩ : MethodName) jdk_68_method_9_code 3 none ({ frames := 0, cells := 0, slots := 0, locals := 0 } : Room) #[(.ref a1), (.int fn)] h0 (Q_ensf16 Z zC a1 vv kv vd fn h0) := by
  refine Con.intro (plainFor_of_name pn1) ?_
  intro p e s m below meth c T0 X0 hx hby hml hown0 hnm hret hlk hZ0 e0
  have N0 := Fr.nil Z.heap.size
  refine castGo (g' := mkF m 0 #[.val (.ref a1), .val (.int fn), .unset] []) (by first | rfl | (simp [entryFrame, mkF, argsToLocals, Value.category]; done)) ?_
  show Go _ _ _ _ (T0.setTop (mkF m 0 #[.val (.ref a1), .val (.int fn), .unset] []))
  refine aL X0 hx (hb hby d_jdk_68m9_0) (q := 1) rfl rfl rfl ?_
  refine g_getF X0 hx hZ0 hown0 (host := "") (Or.inl (wd44 hw)) Via.refl Qv e0 (hb hby d_jdk_68m9_1) (q := 4) rfl ?_
  intro T71 X71 e71
  refine g_len X71 hx hZ0 Qa e71 (hb hby d_jdk_68m9_4) (q := 5) rfl ?_
  refine aL X71 hx (hb hby d_jdk_68m9_5) (q := 6) rfl rfl rfl ?_
  refine g_getF X71 hx hZ0 hown0 (host := "") (Or.inl (wd46 hw)) Via.refl Qc e71 (hb hby d_jdk_68m9_6) (q := 9) rfl ?_
  intro T72 X72 e72
  refine g_ishr X72 hx (hb hby d_jdk_68m9_9) (q := 10) rfl (z := (16 : Int32)) (by decide) ?_
  refine sI X72 hx (hb hby d_jdk_68m9_10) (q := 11) rfl (Ls' := #[.val (.ref a1), .val (.int fn), .val (iv 16)]) rfl ?_
  refine iL X72 hx (hb hby d_jdk_68m9_11) (q := 12) rfl rfl ?_
  refine iL X72 hx (hb hby d_jdk_68m9_12) (q := 13) rfl rfl ?_
  refine g_isub X72 hx (hb hby d_jdk_68m9_13) (q := 14) rfl rfl ?_
  refine ifY X72 hx (hb hby d_jdk_68m9_14) (q := 38) (by decide) (by decide) (by rcases hfn with rfl | rfl <;> decide) ?_
  refine endP X72 hlk (fun _ => rfl) (lastV X72 hx hret (hb hby d_jdk_68m9_38)) ?_ (by decide) (by decide)
  rw [e72]
  exact ⟨rfl, N0, rfl⟩
theorem d_jdk_42m147_0 : decode jdk_42_method_147_code 0 = .ok (.aload_n 0, 1) := by decide +kernel
theorem d_jdk_42m147_1 : decode jdk_42_method_147_code 1 = .ok (.invokevirtual 335, 3) := by decide +kernel
theorem d_jdk_42m147_4 : decode jdk_42_method_147_code 4 = .ok (.iload_n 3, 1) := by decide +kernel
theorem d_jdk_42m147_5 : decode jdk_42_method_147_code 5 = .ok (.if_icmp .ne 23, 3) := by decide +kernel
theorem d_jdk_42m147_8 : decode jdk_42_method_147_code 8 = .ok (.aload_n 0, 1) := by decide +kernel
theorem d_jdk_42m147_9 : decode jdk_42_method_147_code 9 = .ok (.getfield 9, 3) := by decide +kernel
theorem d_jdk_42m147_12 : decode jdk_42_method_147_code 12 = .ok (.iconst 0, 1) := by decide +kernel
theorem d_jdk_42m147_13 : decode jdk_42_method_147_code 13 = .ok (.aload_n 1, 1) := by decide +kernel
theorem d_jdk_42m147_14 : decode jdk_42_method_147_code 14 = .ok (.iload_n 2, 1) := by decide +kernel
theorem d_jdk_42m147_15 : decode jdk_42_method_147_code 15 = .ok (.iload_n 3, 1) := by decide +kernel
theorem d_jdk_42m147_16 : decode jdk_42_method_147_code 16 = .ok (.ishl, 1) := by decide +kernel
theorem d_jdk_42m147_17 : decode jdk_42_method_147_code 17 = .ok (.aload_n 0, 1) := by decide +kernel
theorem d_jdk_42m147_18 : decode jdk_42_method_147_code 18 = .ok (.getfield 9, 3) := by decide +kernel
theorem d_jdk_42m147_21 : decode jdk_42_method_147_code 21 = .ok (.arraylength, 1) := by decide +kernel
theorem d_jdk_42m147_22 : decode jdk_42_method_147_code 22 = .ok (.invokestatic 212, 3) := by decide +kernel
theorem wd93 {a0 : Array Value} {Z : State} (hw : HW a0 Z) : ((Jvm.Cond.methodLink "java/lang/String" (212 : Nat) ({ cls := "java/lang/System", name := "arraycopy", desc := "(Ljava/lang/Object;ILjava/lang/Object;II)V" } : Jvm.MethodName)) : Jvm.Cond).before a0 Z = true := hw _ (List.mem_of_getElem? (i := 93) rfl)
theorem wd96 {a0 : Array Value} {Z : State} (hw : HW a0 Z) : ((Jvm.Cond.native ({ cls := "java/lang/System", name := "arraycopy", desc := "(Ljava/lang/Object;ILjava/lang/Object;II)V" } : Jvm.MethodName)) : Jvm.Cond).before a0 Z = true := hw _ (List.mem_of_getElem? (i := 96) rfl)
theorem wd94 {a0 : Array Value} {Z : State} (hw : HW a0 Z) : ((Jvm.Cond.static ({ cls := "java/lang/System", name := "arraycopy", desc := "(Ljava/lang/Object;ILjava/lang/Object;II)V" } : Jvm.MethodName)) : Jvm.Cond).before a0 Z = true := hw _ (List.mem_of_getElem? (i := 94) rfl)
theorem wd95 {a0 : Array Value} {Z : State} (hw : HW a0 Z) : ((Jvm.Cond.initialized "java/lang/System") : Jvm.Cond).before a0 Z = true := hw _ (List.mem_of_getElem? (i := 95) rfl)
theorem d_jdk_42m147_25 : decode jdk_42_method_147_code 25 = .ok (.goto 18, 3) := by decide +kernel
theorem d_jdk_42m147_43 : decode jdk_42_method_147_code 43 = .ok (.return_, 1) := by decide +kernel
def Q_gbA (Z : State) (zC : Int32) (a2 : Addr) (t : Addr) (kt : ClassId) (us : List Value) (vv : Addr) (kv : ClassId) (vd : List Value) (h0 : Heap) (v : Option Value) (h : Heap) (L : List Loc) : Prop := v = none ∧ Fr Z.heap.size L ∧ Keep h0 h [vv] ∧ Arv Z h vv kv .byte (16 : Int32) (ins vd (sub us 0 15 (.int 0)) 0 15) (.int 0) ∧ ((ins vd (sub us 0 15 (.int 0)) 0 15).length = 16)
theorem rm_gbA (l : Launch) (Z : State) (a0 : Array Value) (hw : HW a0 Z) (hl : l.stackTraces = true) (zC : Int32) (SC : tSC Z zC) (PC : ¬ zC = (0 : Int32)) (hX : ExW a0 Z) (a2 : Addr) (t : Addr) (kt : ClassId) (us : List Value) (vv : Addr) (kv : ClassId) (vd : List Value) (h0 : Heap) (O0 : Old Z Z.heap.size h0) (Pe : Exa Z h0 a2 sT1) (Pc : Fld Z h0 a2 sT1 "coder" "B" (iv 0)) (Pv : Fld Z h0 a2 sT1 "value" "[B" (.ref t)) (Pa : Arv Z h0 t kt .byte (15 : Int32) us (.int 0)) (Pl : (us.length = 15)) (Wa : Arv Z h0 vv kv .byte (16 : Int32) vd (.int 0)) (Wl : (vd.length = 16)) (Wy : Z.heap.size ≤ vv) :
    Con l Z (⟨sT1, "getBytes", "([BIB)V"⟩ : MethodName) jdk_42_method_147_code 4 none ({ frames := 1, cells := 0, slots := 0, locals := 31 } : Room) #[(.ref a2), (.ref vv), (iv 0), (iv 0)] h0 (Q_gbA Z zC a2 t kt us vv kv vd h0) := by
  refine Con.intro (plainFor_of_name pn0) ?_
  intro p e s m below meth c T0 X0 hx hby hml hown0 hnm hret hlk hZ0 e0
  have N0 := Fr.nil Z.heap.size
  refine castGo (g' := mkF m 0 #[.val (.ref a2), .val (.ref vv), .val (iv 0), .val (iv 0)] []) (by first | rfl | (simp [entryFrame, mkF, argsToLocals, Value.category]; done)) ?_
  show Go _ _ _ _ (T0.setTop (mkF m 0 #[.val (.ref a2), .val (.ref vv), .val (iv 0), .val (iv 0)] []))
  refine aL X0 hx (hb hby d_jdk_42m147_0) (q := 1) rfl rfl rfl ?_
  refine g_vi X0 hx hZ0 hown0 (wd64 hw) (wd65 hw) (notFace_of_selects (args := #[]) (mvT hZ0 (wd67 hw))) (wd67 hw) (wd66 hw) (by decide) Pe e0 (Con.back (W := 0) (rm_coder0 l Z a0 hw hl zC SC PC hX a2 h0 O0 Pc) hZ0 (wd68 hw) (wd3 hw) (by decide) (by decide)) (by rw [hml]; rfl) (lenOf pd1 rfl) rfl (Nat.le_of_eq rfl) (hb hby d_jdk_42m147_1) (q := 4) rfl (by decide) (by decide) ?_
  intro v73 T73 L73 X73 Q73
  obtain ⟨rfl, Nq73, e73⟩ := Q73
  have N73 := Fr.app N0 Nq73
  show Go _ _ _ _ (T73.setTop (mkF m 4 #[.val (.ref a2), .val (.ref vv), .val (iv 0), .val (iv 0)] [(iv 0)]))
  refine iL X73 hx (hb hby d_jdk_42m147_4) (q := 5) rfl rfl ?_
  refine icN X73 hx (hb hby d_jdk_42m147_5) (q := 8) rfl (by decide) ?_
  refine aL X73 hx (hb hby d_jdk_42m147_8) (q := 9) rfl rfl rfl ?_
  refine g_getF X73 hx hZ0 hown0 (host := "") (Or.inl (wd21 hw)) Via.refl Pv e73 (hb hby d_jdk_42m147_9) (q := 12) rfl ?_
  intro T74 X74 e74
  refine cI X74 hx (hb hby d_jdk_42m147_12) (q := 13) rfl (z := (0 : Int32)) rfl ?_
  refine aL X74 hx (hb hby d_jdk_42m147_13) (q := 14) rfl rfl rfl ?_
  refine iL X74 hx (hb hby d_jdk_42m147_14) (q := 15) rfl rfl ?_
  refine iL X74 hx (hb hby d_jdk_42m147_15) (q := 16) rfl rfl ?_
  refine g_ishl X74 hx (hb hby d_jdk_42m147_16) (q := 17) rfl (z := (0 : Int32)) (by decide) ?_
  refine aL X74 hx (hb hby d_jdk_42m147_17) (q := 18) rfl rfl rfl ?_
  refine g_getF X74 hx hZ0 hown0 (host := "") (Or.inl (wd21 hw)) Via.refl Pv e74 (hb hby d_jdk_42m147_18) (q := 21) rfl ?_
  intro T75 X75 e75
  refine g_len X75 hx hZ0 Pa e75 (hb hby d_jdk_42m147_21) (q := 22) rfl ?_
  refine g_cp X75 hx hZ0 hown0 (wd93 hw) (wd96 hw) (wd94 hw) (wd95 hw) (us := (sub us 0 15 (.int 0))) Pa Wa (Or.inl ⟨rfl, rfl⟩) (by decide) (by decide) (by decide) (by decide) (by decide) rfl (by rw [Wl]; exact (show 0 + 15 ≤ 16 from (by decide))) N73 Wy (by rw [hml]; rfl) (by decide) (W := 0) (Nat.le_of_eq rfl) (by decide) e75 (hb hby d_jdk_42m147_22) (q := 25) rfl ?_
  intro T76 h76 L76 X76 e76 N76 K76q V76
  have Va76 : Arv Z h76 vv kv .byte (16 : Int32) (ins vd (sub us 0 15 (.int 0)) 0 15) (.int 0) := V76
  have Ln76 : (ins vd (sub us 0 15 (.int 0)) 0 15).length = 16 := (ins_len sub_len (by rw [Wl]; exact (show 0 + 15 ≤ 16 from (by decide)))).trans Wl
  refine g_goto X76 hx (hb hby d_jdk_42m147_25) (q := 43) (by decide) (by decide) ?_
  have K77 : Keep h0 h76 [vv] := (Keep.refl h0 [vv]).trans K76q (allS (Or.inl (by simp)) all0)
  refine endP X76 hlk (fun _ => rfl) (lastV X76 hx hret (hb hby d_jdk_42m147_43)) ?_ (by decide) (by decide)
  rw [e76]
  exact ⟨rfl, N76, K77, Va76, Ln76⟩
theorem d_jdk_68m71_0 : decode jdk_68_method_71_code 0 = .ok (.getstatic 18, 3) := by decide +kernel
theorem d_jdk_68m71_3 : decode jdk_68_method_71_code 3 = .ok (.ifCond .eq 18, 3) := by decide +kernel
theorem d_jdk_68m71_6 : decode jdk_68_method_71_code 6 = .ok (.aload_n 0, 1) := by decide +kernel
theorem d_jdk_68m71_7 : decode jdk_68_method_71_code 7 = .ok (.getfield 22, 3) := by decide +kernel
theorem d_jdk_68m71_10 : decode jdk_68_method_71_code 10 = .ok (.aload_n 1, 1) := by decide +kernel
theorem d_jdk_68m71_11 : decode jdk_68_method_71_code 11 = .ok (.invokevirtual 40, 3) := by decide +kernel
theorem wd87 {a0 : Array Value} {Z : State} (hw : HW a0 Z) : ((Jvm.Cond.methodLink "java/lang/AbstractStringBuilder" (40 : Nat) ({ cls := "java/lang/String", name := "coder", desc := "()B" } : Jvm.MethodName)) : Jvm.Cond).before a0 Z = true := hw _ (List.mem_of_getElem? (i := 87) rfl)
theorem d_jdk_68m71_14 : decode jdk_68_method_71_code 14 = .ok (.if_icmp .eq 7, 3) := by decide +kernel
theorem d_jdk_68m71_21 : decode jdk_68_method_71_code 21 = .ok (.return_, 1) := by decide +kernel
def Q_infl (Z : State) (zC : Int32) (a1 : Addr) (a2 : Addr) (h0 : Heap) (v : Option Value) (h : Heap) (L : List Loc) : Prop := v = none ∧ Fr Z.heap.size L ∧ h = h0
theorem rm_infl (l : Launch) (Z : State) (a0 : Array Value) (hw : HW a0 Z) (hl : l.stackTraces = true) (zC : Int32) (SC : tSC Z zC) (PC : ¬ zC = (0 : Int32)) (hX : ExW a0 Z) (a1 : Addr) (a2 : Addr) (h0 : Heap) (O0 : Old Z Z.heap.size h0) (P1 : Fld Z h0 a1 sT0 "coder" "B" (iv 0)) (P2 : Exa Z h0 a2 sT1) (P3 : Fld Z h0 a2 sT1 "coder" "B" (iv 0)) :
    Con l Z (⟨sT0, "inflateIfNeededFor", "(Ljava/lang/String;)V"⟩ : MethodName) jdk_68_method_71_code 2 none ({ frames := 1, cells := 0, slots := 0, locals := 13 } : Room) #[(.ref a1), (.ref a2)] h0 (Q_infl Z zC a1 a2 h0) := by
  refine Con.intro (plainFor_of_name pn1) ?_
  intro p e s m below meth c T0 X0 hx hby hml hown0 hnm hret hlk hZ0 e0
  have N0 := Fr.nil Z.heap.size
  refine castGo (g' := mkF m 0 #[.val (.ref a1), .val (.ref a2)] []) (by first | rfl | (simp [entryFrame, mkF, argsToLocals, Value.category]; done)) ?_
  show Go _ _ _ _ (T0.setTop (mkF m 0 #[.val (.ref a1), .val (.ref a2)] []))
  refine g_getS X0 hx hZ0 hown0 (host := "") (Or.inl (wd43 hw)) Via.refl (SC.ext O0.2) e0 (hb hby d_jdk_68m71_0) (q := 3) rfl ?_
  intro T78 X78 e78
  refine ifN X78 hx (hb hby d_jdk_68m71_3) (q := 6) rfl ((if0 _ _).trans (feq PC).1) ?_
  refine aL X78 hx (hb hby d_jdk_68m71_6) (q := 7) rfl rfl rfl ?_
  refine g_getF X78 hx hZ0 hown0 (host := "") (Or.inl (wd46 hw)) Via.refl P1 e78 (hb hby d_jdk_68m71_7) (q := 10) rfl ?_
  intro T79 X79 e79
  refine aL X79 hx (hb hby d_jdk_68m71_10) (q := 11) rfl rfl rfl ?_
  refine g_vi X79 hx hZ0 hown0 (wd87 hw) (wd65 hw) (notFace_of_selects (args := #[]) (mvT hZ0 (wd67 hw))) (wd67 hw) (wd66 hw) (by decide) P2 e79 (Con.back (W := 1) (rm_coder0 l Z a0 hw hl zC SC PC hX a2 h0 O0 P3) hZ0 (wd68 hw) (wd3 hw) (by decide) (by decide)) (by rw [hml]; rfl) (lenOf pd1 rfl) rfl (Nat.le_of_eq rfl) (hb hby d_jdk_68m71_11) (q := 14) rfl (by decide) (by decide) ?_
  intro v80 T80 L80 X80 Q80
  obtain ⟨rfl, Nq80, e80⟩ := Q80
  have N80 := Fr.app N0 Nq80
  show Go _ _ _ _ (T80.setTop (mkF m 14 #[.val (.ref a1), .val (.ref a2)] [(iv 0), (iv 0)]))
  refine icY X80 hx (hb hby d_jdk_68m71_14) (q := 21) (by decide) (by decide) (by decide) ?_
  refine endP X80 hlk (fun _ => rfl) (lastV X80 hx hret (hb hby d_jdk_68m71_21)) ?_ (by decide) (by decide)
  rw [e80]
  exact ⟨rfl, N80, rfl⟩
theorem d_jdk_68m73_0 : decode jdk_68_method_73_code 0 = .ok (.aload_n 0, 1) := by decide +kernel
theorem d_jdk_68m73_1 : decode jdk_68_method_73_code 1 = .ok (.aload_n 2, 1) := by decide +kernel
theorem d_jdk_68m73_2 : decode jdk_68_method_73_code 2 = .ok (.invokevirtual 397, 3) := by decide +kernel
theorem wd86 {a0 : Array Value} {Z : State} (hw : HW a0 Z) : ((Jvm.Cond.code ({ cls := "java/lang/AbstractStringBuilder", name := "inflateIfNeededFor", desc := "(Ljava/lang/String;)V" } : Jvm.MethodName) jdk_68_method_71_code (2 : Nat) (Option.none : Option Jvm.ClassFile.FieldType)) : Jvm.Cond).before a0 Z = true := hw _ (List.mem_of_getElem? (i := 86) rfl)
theorem pd3 : parseMethodDescriptor "(Ljava/lang/String;)V" = some ⟨[(.object "java/lang/String")], none⟩ := by decide +kernel
theorem wd82 {a0 : Array Value} {Z : State} (hw : HW a0 Z) : ((Jvm.Cond.methodLink "java/lang/AbstractStringBuilder" (397 : Nat) ({ cls := "java/lang/AbstractStringBuilder", name := "inflateIfNeededFor", desc := "(Ljava/lang/String;)V" } : Jvm.MethodName)) : Jvm.Cond).before a0 Z = true := hw _ (List.mem_of_getElem? (i := 82) rfl)
theorem wd83 {a0 : Array Value} {Z : State} (hw : HW a0 Z) : ((Jvm.Cond.instanceMethod ({ cls := "java/lang/AbstractStringBuilder", name := "inflateIfNeededFor", desc := "(Ljava/lang/String;)V" } : Jvm.MethodName)) : Jvm.Cond).before a0 Z = true := hw _ (List.mem_of_getElem? (i := 83) rfl)
theorem wd85 {a0 : Array Value} {Z : State} (hw : HW a0 Z) : ((Jvm.Cond.selects "java/lang/StringBuilder" ({ cls := "java/lang/AbstractStringBuilder", name := "inflateIfNeededFor", desc := "(Ljava/lang/String;)V" } : Jvm.MethodName) ({ cls := "java/lang/AbstractStringBuilder", name := "inflateIfNeededFor", desc := "(Ljava/lang/String;)V" } : Jvm.MethodName)) : Jvm.Cond).before a0 Z = true := hw _ (List.mem_of_getElem? (i := 85) rfl)
theorem wd84 {a0 : Array Value} {Z : State} (hw : HW a0 Z) : ((Jvm.Cond.privateMethod ({ cls := "java/lang/AbstractStringBuilder", name := "inflateIfNeededFor", desc := "(Ljava/lang/String;)V" } : Jvm.MethodName)) : Jvm.Cond).before a0 Z = true := hw _ (List.mem_of_getElem? (i := 84) rfl)
theorem d_jdk_68m73_5 : decode jdk_68_method_73_code 5 = .ok (.aload_n 2, 1) := by decide +kernel
theorem d_jdk_68m73_6 : decode jdk_68_method_73_code 6 = .ok (.aload_n 0, 1) := by decide +kernel
theorem d_jdk_68m73_7 : decode jdk_68_method_73_code 7 = .ok (.getfield 15, 3) := by decide +kernel
theorem d_jdk_68m73_10 : decode jdk_68_method_73_code 10 = .ok (.iload_n 1, 1) := by decide +kernel
theorem d_jdk_68m73_11 : decode jdk_68_method_73_code 11 = .ok (.aload_n 0, 1) := by decide +kernel
theorem d_jdk_68m73_12 : decode jdk_68_method_73_code 12 = .ok (.getfield 22, 3) := by decide +kernel
theorem d_jdk_68m73_15 : decode jdk_68_method_73_code 15 = .ok (.invokevirtual 399, 3) := by decide +kernel
theorem wd92 {a0 : Array Value} {Z : State} (hw : HW a0 Z) : ((Jvm.Cond.code ({ cls := "java/lang/String", name := "getBytes", desc := "([BIB)V" } : Jvm.MethodName) jdk_42_method_147_code (4 : Nat) (Option.none : Option Jvm.ClassFile.FieldType)) : Jvm.Cond).before a0 Z = true := hw _ (List.mem_of_getElem? (i := 92) rfl)
theorem pd4 : parseMethodDescriptor "([BIB)V" = some ⟨[(.array .byte), .int, .byte], none⟩ := by decide +kernel
theorem wd91 {a0 : Array Value} {Z : State} (hw : HW a0 Z) : ((Jvm.Cond.selects "java/lang/String" ({ cls := "java/lang/String", name := "getBytes", desc := "([BIB)V" } : Jvm.MethodName) ({ cls := "java/lang/String", name := "getBytes", desc := "([BIB)V" } : Jvm.MethodName)) : Jvm.Cond).before a0 Z = true := hw _ (List.mem_of_getElem? (i := 91) rfl)
theorem wd88 {a0 : Array Value} {Z : State} (hw : HW a0 Z) : ((Jvm.Cond.methodLink "java/lang/AbstractStringBuilder" (399 : Nat) ({ cls := "java/lang/String", name := "getBytes", desc := "([BIB)V" } : Jvm.MethodName)) : Jvm.Cond).before a0 Z = true := hw _ (List.mem_of_getElem? (i := 88) rfl)
theorem wd89 {a0 : Array Value} {Z : State} (hw : HW a0 Z) : ((Jvm.Cond.declares ({ cls := "java/lang/String", name := "getBytes", desc := "([BIB)V" } : Jvm.MethodName)) : Jvm.Cond).before a0 Z = true := hw _ (List.mem_of_getElem? (i := 89) rfl)
theorem wd90 {a0 : Array Value} {Z : State} (hw : HW a0 Z) : ((Jvm.Cond.instanceMethod ({ cls := "java/lang/String", name := "getBytes", desc := "([BIB)V" } : Jvm.MethodName)) : Jvm.Cond).before a0 Z = true := hw _ (List.mem_of_getElem? (i := 90) rfl)
theorem d_jdk_68m73_18 : decode jdk_68_method_73_code 18 = .ok (.return_, 1) := by decide +kernel
def Q_psaA (Z : State) (zC : Int32) (a1 : Addr) (a2 : Addr) (t : Addr) (kt : ClassId) (us : List Value) (vv : Addr) (kv : ClassId) (vd : List Value) (h0 : Heap) (v : Option Value) (h : Heap) (L : List Loc) : Prop := v = none ∧ Fr Z.heap.size L ∧ Keep h0 h [vv] ∧ Arv Z h vv kv .byte (16 : Int32) (ins vd (sub us 0 15 (.int 0)) 0 15) (.int 0) ∧ ((ins vd (sub us 0 15 (.int 0)) 0 15).length = 16)
theorem rm_psaA (l : Launch) (Z : State) (a0 : Array Value) (hw : HW a0 Z) (hl : l.stackTraces = true) (zC : Int32) (SC : tSC Z zC) (PC : ¬ zC = (0 : Int32)) (hX : ExW a0 Z) (a1 : Addr) (a2 : Addr) (t : Addr) (kt : ClassId) (us : List Value) (vv : Addr) (kv : ClassId) (vd : List Value) (h0 : Heap) (O0 : Old Z Z.heap.size h0) (Pe : Exa Z h0 a2 sT1) (Pc : Fld Z h0 a2 sT1 "coder" "B" (iv 0)) (Pv : Fld Z h0 a2 sT1 "value" "[B" (.ref t)) (Pa : Arv Z h0 t kt .byte (15 : Int32) us (.int 0)) (Pl : (us.length = 15)) (We : Exa Z h0 a1 sT2) (Wc : Fld Z h0 a1 sT0 "coder" "B" (iv 0)) (Wv : Fld Z h0 a1 sT0 "value" "[B" (.ref vv)) (Wa : Arv Z h0 vv kv .byte (16 : Int32) vd (.int 0)) (Wl : (vd.length = 16)) (Wy : Z.heap.size ≤ vv) :
    Con l Z (⟨sT0, "putStringAt", "(ILjava/lang/String;)V"⟩ : MethodName) jdk_68_method_73_code 3 none ({ frames := 2, cells := 0, slots := 0, locals := 46 } : Room) #[(.ref a1), (iv 0), (.ref a2)] h0 (Q_psaA Z zC a1 a2 t kt us vv kv vd h0) := by
  refine Con.intro (plainFor_of_name pn1) ?_
  intro p e s m below meth c T0 X0 hx hby hml hown0 hnm hret hlk hZ0 e0
  have N0 := Fr.nil Z.heap.size
  refine castGo (g' := mkF m 0 #[.val (.ref a1), .val (iv 0), .val (.ref a2)] []) (by first | rfl | (simp [entryFrame, mkF, argsToLocals, Value.category]; done)) ?_
  show Go _ _ _ _ (T0.setTop (mkF m 0 #[.val (.ref a1), .val (iv 0), .val (.ref a2)] []))
  refine aL X0 hx (hb hby d_jdk_68m73_0) (q := 1) rfl rfl rfl ?_
  refine aL X0 hx (hb hby d_jdk_68m73_1) (q := 2) rfl rfl rfl ?_
  refine g_pvC X0 hx hZ0 hown0 (wd82 hw) (wd83 hw) (wd85 hw) (wd84 hw) (wd86 hw) (by decide) We e0 (Con.back (W := 0) (rm_infl l Z a0 hw hl zC SC PC hX a1 a2 h0 O0 Wc Pe Pc) hZ0 (wd86 hw) (wd40 hw) (by decide) (by decide)) (by rw [hml]; rfl) (lenOf pd3 rfl) rfl (Nat.le_of_eq rfl) (hb hby d_jdk_68m73_2) (q := 5) rfl (by decide) (by decide) ?_
  intro v81 T81 L81 X81 Q81
  obtain ⟨rfl, Nq81, e81⟩ := Q81
  have N81 := Fr.app N0 Nq81
  show Go _ _ _ _ (T81.setTop (mkF m 5 #[.val (.ref a1), .val (iv 0), .val (.ref a2)] []))
  refine aL X81 hx (hb hby d_jdk_68m73_5) (q := 6) rfl rfl rfl ?_
  refine aL X81 hx (hb hby d_jdk_68m73_6) (q := 7) rfl rfl rfl ?_
  refine g_getF X81 hx hZ0 hown0 (host := "") (Or.inl (wd44 hw)) Via.refl Wv e81 (hb hby d_jdk_68m73_7) (q := 10) rfl ?_
  intro T82 X82 e82
  refine iL X82 hx (hb hby d_jdk_68m73_10) (q := 11) rfl rfl ?_
  refine aL X82 hx (hb hby d_jdk_68m73_11) (q := 12) rfl rfl rfl ?_
  refine g_getF X82 hx hZ0 hown0 (host := "") (Or.inl (wd46 hw)) Via.refl Wc e82 (hb hby d_jdk_68m73_12) (q := 15) rfl ?_
  intro T83 X83 e83
  refine g_vi X83 hx hZ0 hown0 (wd88 hw) (wd89 hw) (notFace_of_selects (args := #[]) (mvT hZ0 (wd91 hw))) (wd91 hw) (wd90 hw) (by decide) Pe e83 (Con.back (W := 0) (rm_gbA l Z a0 hw hl zC SC PC hX a2 t kt us vv kv vd h0 O0 Pe Pc Pv Pa Pl Wa Wl Wy) hZ0 (wd92 hw) (wd3 hw) (by decide) (by decide)) (by rw [hml]; rfl) (lenOf pd4 rfl) rfl (Nat.le_of_eq rfl) (hb hby d_jdk_68m73_15) (q := 18) rfl (by decide) (by decide) ?_
  intro v84 T84 L84 X84 Q84
  obtain ⟨rfl, Nq84, K84q, q84_0, q84_1⟩ := Q84
  have N84 := Fr.app N81 Nq84
  show Go _ _ _ _ (T84.setTop (mkF m 18 #[.val (.ref a1), .val (iv 0), .val (.ref a2)] []))
  have K85 : Keep h0 T84.heap [vv] := (Keep.refl h0 [vv]).trans K84q (allS (Or.inl (by simp)) all0)
  refine endP X84 hlk (fun _ => rfl) (lastV X84 hx hret (hb hby d_jdk_68m73_18)) ?_ (by decide) (by decide)
  exact ⟨rfl, N84, K85, q84_0, q84_1⟩
theorem d_jdk_68m22_0 : decode jdk_68_method_22_code 0 = .ok (.aload_n 1, 1) := by decide +kernel
theorem d_jdk_68m22_1 : decode jdk_68_method_22_code 1 = .ok (.ifnonnull 8, 3) := by decide +kernel
theorem d_jdk_68m22_9 : decode jdk_68_method_22_code 9 = .ok (.aload_n 1, 1) := by decide +kernel
theorem d_jdk_68m22_10 : decode jdk_68_method_22_code 10 = .ok (.invokevirtual 32, 3) := by decide +kernel
theorem wd63 {a0 : Array Value} {Z : State} (hw : HW a0 Z) : ((Jvm.Cond.code ({ cls := "java/lang/String", name := "length", desc := "()I" } : Jvm.MethodName) jdk_42_method_54_code (1 : Nat) (Option.some Jvm.ClassFile.FieldType.int)) : Jvm.Cond).before a0 Z = true := hw _ (List.mem_of_getElem? (i := 63) rfl)
theorem pd5 : parseMethodDescriptor "()I" = some ⟨[], some .int⟩ := by decide +kernel
theorem wd62 {a0 : Array Value} {Z : State} (hw : HW a0 Z) : ((Jvm.Cond.selects "java/lang/String" ({ cls := "java/lang/String", name := "length", desc := "()I" } : Jvm.MethodName) ({ cls := "java/lang/String", name := "length", desc := "()I" } : Jvm.MethodName)) : Jvm.Cond).before a0 Z = true := hw _ (List.mem_of_getElem? (i := 62) rfl)
theorem wd59 {a0 : Array Value} {Z : State} (hw : HW a0 Z) : ((Jvm.Cond.methodLink "java/lang/AbstractStringBuilder" (32 : Nat) ({ cls := "java/lang/String", name := "length", desc := "()I" } : Jvm.MethodName)) : Jvm.Cond).before a0 Z = true := hw _ (List.mem_of_getElem? (i := 59) rfl)
theorem wd60 {a0 : Array Value} {Z : State} (hw : HW a0 Z) : ((Jvm.Cond.declares ({ cls := "java/lang/String", name := "length", desc := "()I" } : Jvm.MethodName)) : Jvm.Cond).before a0 Z = true := hw _ (List.mem_of_getElem? (i := 60) rfl)
theorem wd61 {a0 : Array Value} {Z : State} (hw : HW a0 Z) : ((Jvm.Cond.instanceMethod ({ cls := "java/lang/String", name := "length", desc := "()I" } : Jvm.MethodName)) : Jvm.Cond).before a0 Z = true := hw _ (List.mem_of_getElem? (i := 61) rfl)
theorem d_jdk_68m22_13 : decode jdk_68_method_22_code 13 = .ok (.istore_n 2, 1) := by decide +kernel
theorem d_jdk_68m22_14 : decode jdk_68_method_22_code 14 = .ok (.aload_n 0, 1) := by decide +kernel
theorem d_jdk_68m22_15 : decode jdk_68_method_22_code 15 = .ok (.aload_n 0, 1) := by decide +kernel
theorem d_jdk_68m22_16 : decode jdk_68_method_22_code 16 = .ok (.getfield 79, 3) := by decide +kernel
theorem wd70 {a0 : Array Value} {Z : State} (hw : HW a0 Z) : ((Jvm.Cond.fieldLink "java/lang/AbstractStringBuilder" (79 : Nat) "java/lang/AbstractStringBuilder" "count" "I") : Jvm.Cond).before a0 Z = true := hw _ (List.mem_of_getElem? (i := 70) rfl)
theorem d_jdk_68m22_19 : decode jdk_68_method_22_code 19 = .ok (.iload_n 2, 1) := by decide +kernel
theorem d_jdk_68m22_20 : decode jdk_68_method_22_code 20 = .ok (.iadd, 1) := by decide +kernel
theorem d_jdk_68m22_21 : decode jdk_68_method_22_code 21 = .ok (.invokevirtual 100, 3) := by decide +kernel
theorem wd76 {a0 : Array Value} {Z : State} (hw : HW a0 Z) : ((Jvm.Cond.code ({ cls := "java/lang/AbstractStringBuilder", name := "ensureCapacityInternal", desc := "(I)V" } : Jvm.MethodName) jdk_68_method_9_code (3 : Nat) (Option.none : Option Jvm.ClassFile.FieldType)) : Jvm.Cond).before a0 Z = true := hw _ (List.mem_of_getElem? (i := 76) rfl)
theorem wd72 {a0 : Array Value} {Z : State} (hw : HW a0 Z) : ((Jvm.Cond.methodLink "java/lang/AbstractStringBuilder" (100 : Nat) ({ cls := "java/lang/AbstractStringBuilder", name := "ensureCapacityInternal", desc := "(I)V" } : Jvm.MethodName)) : Jvm.Cond).before a0 Z = true := hw _ (List.mem_of_getElem? (i := 72) rfl)
theorem wd73 {a0 : Array Value} {Z : State} (hw : HW a0 Z) : ((Jvm.Cond.instanceMethod ({ cls := "java/lang/AbstractStringBuilder", name := "ensureCapacityInternal", desc := "(I)V" } : Jvm.MethodName)) : Jvm.Cond).before a0 Z = true := hw _ (List.mem_of_getElem? (i := 73) rfl)
theorem wd75 {a0 : Array Value} {Z : State} (hw : HW a0 Z) : ((Jvm.Cond.selects "java/lang/StringBuilder" ({ cls := "java/lang/AbstractStringBuilder", name := "ensureCapacityInternal", desc := "(I)V" } : Jvm.MethodName) ({ cls := "java/lang/AbstractStringBuilder", name := "ensureCapacityInternal", desc := "(I)V" } : Jvm.MethodName)) : Jvm.Cond).before a0 Z = true := hw _ (List.mem_of_getElem? (i := 75) rfl)
theorem wd74 {a0 : Array Value} {Z : State} (hw : HW a0 Z) : ((Jvm.Cond.privateMethod ({ cls := "java/lang/AbstractStringBuilder", name := "ensureCapacityInternal", desc := "(I)V" } : Jvm.MethodName)) : Jvm.Cond).before a0 Z = true := hw _ (List.mem_of_getElem? (i := 74) rfl)
theorem d_jdk_68m22_24 : decode jdk_68_method_22_code 24 = .ok (.aload_n 0, 1) := by decide +kernel
theorem d_jdk_68m22_25 : decode jdk_68_method_22_code 25 = .ok (.aload_n 0, 1) := by decide +kernel
theorem d_jdk_68m22_26 : decode jdk_68_method_22_code 26 = .ok (.getfield 79, 3) := by decide +kernel
theorem d_jdk_68m22_29 : decode jdk_68_method_22_code 29 = .ok (.aload_n 1, 1) := by decide +kernel
theorem d_jdk_68m22_30 : decode jdk_68_method_22_code 30 = .ok (.invokevirtual 208, 3) := by decide +kernel
theorem wd81 {a0 : Array Value} {Z : State} (hw : HW a0 Z) : ((Jvm.Cond.code ({ cls := "java/lang/AbstractStringBuilder", name := "putStringAt", desc := "(ILjava/lang/String;)V" } : Jvm.MethodName) jdk_68_method_73_code (3 : Nat) (Option.none : Option Jvm.ClassFile.FieldType)) : Jvm.Cond).before a0 Z = true := hw _ (List.mem_of_getElem? (i := 81) rfl)
theorem pd6 : parseMethodDescriptor "(ILjava/lang/String;)V" = some ⟨[.int, (.object "java/lang/String")], none⟩ := by decide +kernel
theorem wd77 {a0 : Array Value} {Z : State} (hw : HW a0 Z) : ((Jvm.Cond.methodLink "java/lang/AbstractStringBuilder" (208 : Nat) ({ cls := "java/lang/AbstractStringBuilder", name := "putStringAt", desc := "(ILjava/lang/String;)V" } : Jvm.MethodName)) : Jvm.Cond).before a0 Z = true := hw _ (List.mem_of_getElem? (i := 77) rfl)
theorem wd78 {a0 : Array Value} {Z : State} (hw : HW a0 Z) : ((Jvm.Cond.instanceMethod ({ cls := "java/lang/AbstractStringBuilder", name := "putStringAt", desc := "(ILjava/lang/String;)V" } : Jvm.MethodName)) : Jvm.Cond).before a0 Z = true := hw _ (List.mem_of_getElem? (i := 78) rfl)
theorem wd80 {a0 : Array Value} {Z : State} (hw : HW a0 Z) : ((Jvm.Cond.selects "java/lang/StringBuilder" ({ cls := "java/lang/AbstractStringBuilder", name := "putStringAt", desc := "(ILjava/lang/String;)V" } : Jvm.MethodName) ({ cls := "java/lang/AbstractStringBuilder", name := "putStringAt", desc := "(ILjava/lang/String;)V" } : Jvm.MethodName)) : Jvm.Cond).before a0 Z = true := hw _ (List.mem_of_getElem? (i := 80) rfl)
theorem wd79 {a0 : Array Value} {Z : State} (hw : HW a0 Z) : ((Jvm.Cond.privateMethod ({ cls := "java/lang/AbstractStringBuilder", name := "putStringAt", desc := "(ILjava/lang/String;)V" } : Jvm.MethodName)) : Jvm.Cond).before a0 Z = true := hw _ (List.mem_of_getElem? (i := 79) rfl)
theorem d_jdk_68m22_33 : decode jdk_68_method_22_code 33 = .ok (.aload_n 0, 1) := by decide +kernel
theorem d_jdk_68m22_34 : decode jdk_68_method_22_code 34 = .ok (.dup, 1) := by decide +kernel
theorem d_jdk_68m22_35 : decode jdk_68_method_22_code 35 = .ok (.getfield 79, 3) := by decide +kernel
theorem d_jdk_68m22_38 : decode jdk_68_method_22_code 38 = .ok (.iload_n 2, 1) := by decide +kernel
theorem d_jdk_68m22_39 : decode jdk_68_method_22_code 39 = .ok (.iadd, 1) := by decide +kernel
theorem d_jdk_68m22_40 : decode jdk_68_method_22_code 40 = .ok (.putfield 79, 3) := by decide +kernel
theorem d_jdk_68m22_43 : decode jdk_68_method_22_code 43 = .ok (.aload_n 0, 1) := by decide +kernel
theorem d_jdk_68m22_44 : decode jdk_68_method_22_code 44 = .ok (.areturn, 1) := by decide +kernel
def Q_aapA (Z : State) (zC : Int32) (a1 : Addr) (vv : Addr) (kv : ClassId) (vd : List Value) (a2 : Addr) (t : Addr) (kt : ClassId) (us : List Value) (h0 : Heap) (v : Option Value) (h : Heap) (L : List Loc) : Prop := v = some (.ref a1) ∧ Fr Z.heap.size L ∧ Keep h0 h [a1, vv] ∧ Exa Z h a1 sT2 ∧ Fld Z h a1 sT0 "coder" "B" (iv 0) ∧ Fld Z h a1 sT0 "count" "I" (iv 15) ∧ Fld Z h a1 sT0 "value" "[B" (.ref vv) ∧ Arv Z h vv kv .byte (16 : Int32) (ins vd (sub us 0 15 (.int 0)) 0 15) (.int 0) ∧ ((ins vd (sub us 0 15 (.int 0)) 0 15).length = 16)
theorem rm_aapA (l : Launch) (Z : State) (a0 : Array Value) (hw : HW a0 Z) (hl : l.stackTraces = true) (zC : Int32) (SC : tSC Z zC) (PC : ¬ zC = (0 : Int32)) (hX : ExW a0 Z) (a1 : Addr) (vv : Addr) (kv : ClassId) (vd : List Value) (a2 : Addr) (t : Addr) (kt : ClassId) (us : List Value) (h0 : Heap) (O0 : Old Z Z.heap.size h0) (Qe : Exa Z h0 a1 sT2) (Qc : Fld Z h0 a1 sT0 "coder" "B" (iv 0)) (Qn : Fld Z h0 a1 sT0 "count" "I" (iv 0)) (Qv : Fld Z h0 a1 sT0 "value" "[B" (.ref vv)) (Qa : Arv Z h0 vv kv .byte (16 : Int32) vd (.int 0)) (Ql : (vd.length = 16)) (Qz : Z.heap.size ≤ a1) (Qy : Z.heap.size ≤ vv) (Pe : Exa Z h0 a2 sT1) (Pc : Fld Z h0 a2 sT1 "coder" "B" (iv 0)) (Pv : Fld Z h0 a2 sT1 "value" "[B" (.ref t)) (Pa : Arv Z h0 t kt .byte (15 : Int32) us (.int 0)) (Pl : (us.length = 15)) :
    Con l Z (⟨sT0, "append", "(Ljava/lang/String;)Ljava/lang/AbstractStringBuilder;"⟩ : MethodName) jdk_68_method_22_code 3 (some (.object sT0)) ({ frames := 3, cells := 0, slots := 0, locals := 60 } : Room) #[(.ref a1), (.ref a2)] h0 (Q_aapA Z zC a1 vv kv vd a2 t kt us h0) := by
  refine Con.intro (plainFor_of_name pn1) ?_
  intro p e s m below meth c T0 X0 hx hby hml hown0 hnm hret hlk hZ0 e0
  have N0 := Fr.nil Z.heap.size
  refine castGo (g' := mkF m 0 #[.val (.ref a1), .val (.ref a2), .unset] []) (by first | rfl | (simp [entryFrame, mkF, argsToLocals, Value.category]; done)) ?_
  show Go _ _ _ _ (T0.setTop (mkF m 0 #[.val (.ref a1), .val (.ref a2), .unset] []))
  refine aL X0 hx (hb hby d_jdk_68m22_0) (q := 1) rfl rfl rfl ?_
  refine nnY X0 hx (hb hby d_jdk_68m22_1) (q := 9) (by decide) (by decide) ?_
  refine aL X0 hx (hb hby d_jdk_68m22_9) (q := 10) rfl rfl rfl ?_
  refine g_vi X0 hx hZ0 hown0 (wd59 hw) (wd60 hw) (notFace_of_selects (args := #[]) (mvT hZ0 (wd62 hw))) (wd62 hw) (wd61 hw) (by decide) Pe e0 (Con.back (W := 0) (rm_slen l Z a0 hw hl zC SC PC hX a2 t kt us (15 : Int32) h0 O0 Pe Pc Pv Pa) hZ0 (wd63 hw) (wd3 hw) (by decide) (by decide)) (by rw [hml]; rfl) (lenOf pd5 rfl) rfl (Nat.le_of_eq rfl) (hb hby d_jdk_68m22_10) (q := 13) rfl (by decide) (by decide) ?_
  intro v86 T86 L86 X86 Q86
  obtain ⟨rfl, Nq86, e86⟩ := Q86
  have N86 := Fr.app N0 Nq86
  show Go _ _ _ _ (T86.setTop (mkF m 13 #[.val (.ref a1), .val (.ref a2), .unset] [(iv 15)]))
  refine sI X86 hx (hb hby d_jdk_68m22_13) (q := 14) rfl (Ls' := #[.val (.ref a1), .val (.ref a2), .val (iv 15)]) rfl ?_
  refine aL X86 hx (hb hby d_jdk_68m22_14) (q := 15) rfl rfl rfl ?_
  refine aL X86 hx (hb hby d_jdk_68m22_15) (q := 16) rfl rfl rfl ?_
  refine g_getF X86 hx hZ0 hown0 (host := "") (Or.inl (wd70 hw)) Via.refl Qn e86 (hb hby d_jdk_68m22_16) (q := 19) rfl ?_
  intro T87 X87 e87
  refine iL X87 hx (hb hby d_jdk_68m22_19) (q := 20) rfl rfl ?_
  refine g_iadd X87 hx (hb hby d_jdk_68m22_20) (q := 21) rfl (z := (15 : Int32)) (by decide) ?_
  refine g_pvC X87 hx hZ0 hown0 (wd72 hw) (wd73 hw) (wd75 hw) (wd74 hw) (wd76 hw) (by decide) Qe e87 (Con.back (W := 0) (rm_ensf16 l Z a0 hw hl zC SC PC hX a1 vv kv vd (15 : Int32) h0 O0 Qe Qc Qv Qa (by decide)) hZ0 (wd76 hw) (wd40 hw) (by decide) (by decide)) (by rw [hml]; rfl) (lenOf pd2 rfl) rfl (Nat.le_of_eq rfl) (hb hby d_jdk_68m22_21) (q := 24) rfl (by decide) (by decide) ?_
  intro v88 T88 L88 X88 Q88
  obtain ⟨rfl, Nq88, e88⟩ := Q88
  have N88 := Fr.app N86 Nq88
  show Go _ _ _ _ (T88.setTop (mkF m 24 #[.val (.ref a1), .val (.ref a2), .val (iv 15)] []))
  refine aL X88 hx (hb hby d_jdk_68m22_24) (q := 25) rfl rfl rfl ?_
  refine aL X88 hx (hb hby d_jdk_68m22_25) (q := 26) rfl rfl rfl ?_
  refine g_getF X88 hx hZ0 hown0 (host := "") (Or.inl (wd70 hw)) Via.refl Qn e88 (hb hby d_jdk_68m22_26) (q := 29) rfl ?_
  intro T89 X89 e89
  refine aL X89 hx (hb hby d_jdk_68m22_29) (q := 30) rfl rfl rfl ?_
  refine g_pvC X89 hx hZ0 hown0 (wd77 hw) (wd78 hw) (wd80 hw) (wd79 hw) (wd81 hw) (by decide) Qe e89 (Con.back (W := 0) (rm_psaA l Z a0 hw hl zC SC PC hX a1 a2 t kt us vv kv vd h0 O0 Pe Pc Pv Pa Pl Qe Qc Qv Qa Ql Qy) hZ0 (wd81 hw) (wd40 hw) (by decide) (by decide)) (by rw [hml]; rfl) (lenOf pd6 rfl) rfl (Nat.le_of_eq rfl) (hb hby d_jdk_68m22_30) (q := 33) rfl (by decide) (by decide) ?_
  intro v90 T90 L90 X90 Q90
  obtain ⟨rfl, Nq90, K90q, q90_0, q90_1⟩ := Q90
  have N90 := Fr.app N88 Nq90
  show Go _ _ _ _ (T90.setTop (mkF m 33 #[.val (.ref a1), .val (.ref a2), .val (iv 15)] []))
  refine aL X90 hx (hb hby d_jdk_68m22_33) (q := 34) rfl rfl rfl ?_
  refine g_dup X90 hx (hb hby d_jdk_68m22_34) (q := 35) rfl rfl ?_
  have f91 := Qe.keep K90q
  have ne92 : a1 ≠ vv := (Exa.neArv f91 q90_0 (wd31 hw))
  have f93 := Qn.keep K90q (ninS ne92 nin0)
  refine g_getF X90 hx hZ0 hown0 (host := "") (Or.inl (wd70 hw)) Via.refl f93 rfl (hb hby d_jdk_68m22_35) (q := 38) rfl ?_
  intro T94 X94 e94
  refine iL X94 hx (hb hby d_jdk_68m22_38) (q := 39) rfl rfl ?_
  refine g_iadd X94 hx (hb hby d_jdk_68m22_39) (q := 40) rfl (z := (15 : Int32)) (by decide) ?_
  refine g_putF X94 hx hZ0 hown0 (host := "") (Or.inl (wd70 hw)) Via.refl f93 f91 (Or.inl (wd71 hw)) (wd31 hw) (ty := .int) (by decide) rfl rfl e94 (hb hby d_jdk_68m22_40) (q := 43) rfl ?_
  intro T95 h95 X95 e95 W95
  have N95 := Fr.snoc X95 N90 Qz
  have Fw95 : Fld Z h95 a1 sT0 "count" "I" (iv 15) := f93.same W95
  refine aL X95 hx (hb hby d_jdk_68m22_43) (q := 44) rfl rfl rfl ?_
  have K96 : Keep h0 T90.heap [a1, vv] := (Keep.refl h0 [a1, vv]).trans K90q (allS (Or.inl (by simp)) all0)
  have K97 : Keep h0 h95 [a1, vv] := K96.wr W95 (Or.inl (by simp))
  have f98 := f91.wr W95
  have f99 := Qc.keep K90q (ninS ne92 nin0)
  have f100 := f99.other W95 (Or.inr (slot_ne (Or.inl (wd47 hw)) (Or.inl (wd71 hw)) (by decide) (t := .byte) (t' := .int) (by decide) (by decide)))
  have f101 := Qv.keep K90q (ninS ne92 nin0)
  have f102 := f101.other W95 (Or.inr (slot_ne (Or.inl (wd45 hw)) (Or.inl (wd71 hw)) (by decide) (t := (.array .byte)) (t' := .int) (by decide) (by decide)))
  have ne103 : vv ≠ a1 := (Ne.symm ne92)
  have f104 := q90_0.other W95 ne103
  refine endP X95 hlk (fun h => by rw [hret] at h; cases h) (lastA X95 hx hret rfl rfl rfl (hb hby d_jdk_68m22_44)) ?_ (by decide) (by decide)
  rw [e95]
  exact ⟨rfl, N95, K97, f98, f100, Fw95, f102, f104, q90_1⟩
theorem d_jdk_67m7_0 : decode jdk_67_method_7_code 0 = .ok (.aload_n 0, 1) := by decide +kernel
theorem d_jdk_67m7_1 : decode jdk_67_method_7_code 1 = .ok (.aload_n 1, 1) := by decide +kernel
theorem d_jdk_67m7_2 : decode jdk_67_method_7_code 2 = .ok (.invokespecial 29, 3) := by decide +kernel
theorem wd58 {a0 : Array Value} {Z : State} (hw : HW a0 Z) : ((Jvm.Cond.code ({ cls := "java/lang/AbstractStringBuilder", name := "append", desc := "(Ljava/lang/String;)Ljava/lang/AbstractStringBuilder;" } : Jvm.MethodName) jdk_68_method_22_code (3 : Nat) (Option.some (Jvm.ClassFile.FieldType.object "java/lang/AbstractStringBuilder"))) : Jvm.Cond).before a0 Z = true := hw _ (List.mem_of_getElem? (i := 58) rfl)
theorem pd7 : parseMethodDescriptor "(Ljava/lang/String;)Ljava/lang/AbstractStringBuilder;" = some ⟨[(.object "java/lang/String")], some (.object "java/lang/AbstractStringBuilder")⟩ := by decide +kernel
theorem wd55 {a0 : Array Value} {Z : State} (hw : HW a0 Z) : ((Jvm.Cond.instanceMethod ({ cls := "java/lang/AbstractStringBuilder", name := "append", desc := "(Ljava/lang/String;)Ljava/lang/AbstractStringBuilder;" } : Jvm.MethodName)) : Jvm.Cond).before a0 Z = true := hw _ (List.mem_of_getElem? (i := 55) rfl)
theorem wd54 {a0 : Array Value} {Z : State} (hw : HW a0 Z) : ((Jvm.Cond.methodLink "java/lang/StringBuilder" (29 : Nat) ({ cls := "java/lang/AbstractStringBuilder", name := "append", desc := "(Ljava/lang/String;)Ljava/lang/AbstractStringBuilder;" } : Jvm.MethodName)) : Jvm.Cond).before a0 Z = true := hw _ (List.mem_of_getElem? (i := 54) rfl)
theorem wd56 {a0 : Array Value} {Z : State} (hw : HW a0 Z) : ((Jvm.Cond.superclass "java/lang/StringBuilder" "java/lang/AbstractStringBuilder") : Jvm.Cond).before a0 Z = true := hw _ (List.mem_of_getElem? (i := 56) rfl)
theorem d_jdk_67m7_5 : decode jdk_67_method_7_code 5 = .ok (.pop, 1) := by decide +kernel
theorem d_jdk_67m7_6 : decode jdk_67_method_7_code 6 = .ok (.aload_n 0, 1) := by decide +kernel
theorem d_jdk_67m7_7 : decode jdk_67_method_7_code 7 = .ok (.areturn, 1) := by decide +kernel
def Q_sapA (Z : State) (zC : Int32) (a1 : Addr) (vv : Addr) (kv : ClassId) (vd : List Value) (a2 : Addr) (t : Addr) (kt : ClassId) (us : List Value) (h0 : Heap) (v : Option Value) (h : Heap) (L : List Loc) : Prop := v = some (.ref a1) ∧ Fr Z.heap.size L ∧ Keep h0 h [a1, vv] ∧ Exa Z h a1 sT2 ∧ Fld Z h a1 sT0 "coder" "B" (iv 0) ∧ Fld Z h a1 sT0 "count" "I" (iv 15) ∧ Fld Z h a1 sT0 "value" "[B" (.ref vv) ∧ Arv Z h vv kv .byte (16 : Int32) (ins vd (sub us 0 15 (.int 0)) 0 15) (.int 0) ∧ ((ins vd (sub us 0 15 (.int 0)) 0 15).length = 16)
theorem rm_sapA (l : Launch) (Z : State) (a0 : Array Value) (hw : HW a0 Z) (hl : l.stackTraces = true) (zC : Int32) (SC : tSC Z zC) (PC : ¬ zC = (0 : Int32)) (hX : ExW a0 Z) (a1 : Addr) (vv : Addr) (kv : ClassId) (vd : List Value) (a2 : Addr) (t : Addr) (kt : ClassId) (us : List Value) (h0 : Heap) (O0 : Old Z Z.heap.size h0) (Qe : Exa Z h0 a1 sT2) (Qc : Fld Z h0 a1 sT0 "coder" "B" (iv 0)) (Qn : Fld Z h0 a1 sT0 "count" "I" (iv 0)) (Qv : Fld Z h0 a1 sT0 "value" "[B" (.ref vv)) (Qa : Arv Z h0 vv kv .byte (16 : Int32) vd (.int 0)) (Ql : (vd.length = 16)) (Qz : Z.heap.size ≤ a1) (Qy : Z.heap.size ≤ vv) (Pe : Exa Z h0 a2 sT1) (Pc : Fld Z h0 a2 sT1 "coder" "B" (iv 0)) (Pv : Fld Z h0 a2 sT1 "value" "[B" (.ref t)) (Pa : Arv Z h0 t kt .byte (15 : Int32) us (.int 0)) (Pl : (us.length = 15)) :
    Con l Z (⟨sT2, "append", "(Ljava/lang/String;)Ljava/lang/StringBuilder;"⟩ : MethodName) jdk_67_method_7_code 2 (some (.object sT2)) ({ frames := 4, cells := 0, slots := 0, locals := 74 } : Room) #[(.ref a1), (.ref a2)] h0 (Q_sapA Z zC a1 vv kv vd a2 t kt us h0) := by
  refine Con.intro (plainFor_of_name pn2) ?_
  intro p e s m below meth c T0 X0 hx hby hml hown0 hnm hret hlk hZ0 e0
  have N0 := Fr.nil Z.heap.size
  refine castGo (g' := mkF m 0 #[.val (.ref a1), .val (.ref a2)] []) (by first | rfl | (simp [entryFrame, mkF, argsToLocals, Value.category]; done)) ?_
  show Go _ _ _ _ (T0.setTop (mkF m 0 #[.val (.ref a1), .val (.ref a2)] []))
  refine aL X0 hx (hb hby d_jdk_67m7_0) (q := 1) rfl rfl rfl ?_
  refine aL X0 hx (hb hby d_jdk_67m7_1) (q := 2) rfl rfl rfl ?_
  refine g_su X0 hx hZ0 hown0 (wd54 hw) (same_self (wd55 hw) (wd75 hw) rfl (by decide)) (wd55 hw) (wd56 hw) (wd58 hw) (by decide) Qe e0 (Con.back (W := 0) (rm_aapA l Z a0 hw hl zC SC PC hX a1 vv kv vd a2 t kt us h0 O0 Qe Qc Qn Qv Qa Ql Qz Qy Pe Pc Pv Pa Pl) hZ0 (wd58 hw) (wd40 hw) (by decide) (by decide)) (by rw [hml]; rfl) (lenOf pd7 rfl) rfl (Nat.le_of_eq rfl) (hb hby d_jdk_67m7_2) (q := 5) rfl (by decide) (by decide) ?_
  intro v105 T105 L105 X105 Q105
  obtain ⟨rfl, Nq105, K105q, q105_0, q105_1, q105_2, q105_3, q105_4, q105_5⟩ := Q105
  have N105 := Fr.app N0 Nq105
  show Go _ _ _ _ (T105.setTop (mkF m 5 #[.val (.ref a1), .val (.ref a2)] [(.ref a1)]))
  refine g_pop X105 hx (hb hby d_jdk_67m7_5) (q := 6) rfl rfl ?_
  refine aL X105 hx (hb hby d_jdk_67m7_6) (q := 7) rfl rfl rfl ?_
  have K106 : Keep h0 T105.heap [a1, vv] := (Keep.refl h0 [a1, vv]).trans K105q (allS (Or.inl (by simp)) (allS (Or.inl (by simp)) all0))
  refine endP X105 hlk (fun h => by rw [hret] at h; cases h) (lastA X105 hx hret rfl rfl rfl (hb hby d_jdk_67m7_7)) ?_ (by decide) (by decide)
  exact ⟨rfl, N105, K106, q105_0, q105_1, q105_2, q105_3, q105_4, q105_5⟩
def Q_gbB (Z : State) (zC : Int32) (a2 : Addr) (t : Addr) (kt : ClassId) (us : List Value) (vv : Addr) (kv : ClassId) (vd : List Value) (fn : Int32) (h0 : Heap) (v : Option Value) (h : Heap) (L : List Loc) : Prop := v = none ∧ Fr Z.heap.size L ∧ Keep h0 h [vv] ∧ Arv Z h vv kv .byte (16 : Int32) (ins vd (sub us 0 (Int32.toNatClampNeg fn) (.int 0)) 15 (Int32.toNatClampNeg fn)) (.int 0) ∧ ((ins vd (sub us 0 (Int32.toNatClampNeg fn) (.int 0)) 15 (Int32.toNatClampNeg fn)).length = 16)
theorem rm_gbB (l : Launch) (Z : State) (a0 : Array Value) (hw : HW a0 Z) (hl : l.stackTraces = true) (zC : Int32) (SC : tSC Z zC) (PC : ¬ zC = (0 : Int32)) (hX : ExW a0 Z) (a2 : Addr) (t : Addr) (kt : ClassId) (us : List Value) (vv : Addr) (kv : ClassId) (vd : List Value) (fn : Int32) (h0 : Heap) (O0 : Old Z Z.heap.size h0) (Pe : Exa Z h0 a2 sT1) (Pc : Fld Z h0 a2 sT1 "coder" "B" (iv 0)) (Pv : Fld Z h0 a2 sT1 "value" "[B" (.ref t)) (Pa : Arv Z h0 t kt .byte fn us (.int 0)) (Pl : (us.length = (Int32.toNatClampNeg fn))) (Wa : Arv Z h0 vv kv .byte (16 : Int32) vd (.int 0)) (Wl : (vd.length = 16)) (Wy : Z.heap.size ≤ vv) (hfn : (fn = (0 : Int32) ∨ fn = (1 : Int32))) :
    Con l Z (⟨sT1, "getBytes", "([BIB)V"⟩ : MethodName) jdk_42_method_147_code 4 none ({ frames := 1, cells := 0, slots := 0, locals := 31 } : Room) #[(.ref a2), (.ref vv), (iv 15), (iv 0)] h0 (Q_gbB Z zC a2 t kt us vv kv vd fn h0) := by
  refine Con.intro (plainFor_of_name pn0) ?_
  intro p e s m below meth c T0 X0 hx hby hml hown0 hnm hret hlk hZ0 e0
  have N0 := Fr.nil Z.heap.size
  refine castGo (g' := mkF m 0 #[.val (.ref a2), .val (.ref vv), .val (iv 15), .val (iv 0)] []) (by first | rfl | (simp [entryFrame, mkF, argsToLocals, Value.category]; done)) ?_
  show Go _ _ _ _ (T0.setTop (mkF m 0 #[.val (.ref a2), .val (.ref vv), .val (iv 15), .val (iv 0)] []))
  refine aL X0 hx (hb hby d_jdk_42m147_0) (q := 1) rfl rfl rfl ?_
  refine g_vi X0 hx hZ0 hown0 (wd64 hw) (wd65 hw) (notFace_of_selects (args := #[]) (mvT hZ0 (wd67 hw))) (wd67 hw) (wd66 hw) (by decide) Pe e0 (Con.back (W := 0) (rm_coder0 l Z a0 hw hl zC SC PC hX a2 h0 O0 Pc) hZ0 (wd68 hw) (wd3 hw) (by decide) (by decide)) (by rw [hml]; rfl) (lenOf pd1 rfl) rfl (Nat.le_of_eq rfl) (hb hby d_jdk_42m147_1) (q := 4) rfl (by decide) (by decide) ?_
  intro v107 T107 L107 X107 Q107
  obtain ⟨rfl, Nq107, e107⟩ := Q107
  have N107 := Fr.app N0 Nq107
  show Go _ _ _ _ (T107.setTop (mkF m 4 #[.val (.ref a2), .val (.ref vv), .val (iv 15), .val (iv 0)] [(iv 0)]))
  refine iL X107 hx (hb hby d_jdk_42m147_4) (q := 5) rfl rfl ?_
  refine icN X107 hx (hb hby d_jdk_42m147_5) (q := 8) rfl (by decide) ?_
  refine aL X107 hx (hb hby d_jdk_42m147_8) (q := 9) rfl rfl rfl ?_
  refine g_getF X107 hx hZ0 hown0 (host := "") (Or.inl (wd21 hw)) Via.refl Pv e107 (hb hby d_jdk_42m147_9) (q := 12) rfl ?_
  intro T108 X108 e108
  refine cI X108 hx (hb hby d_jdk_42m147_12) (q := 13) rfl (z := (0 : Int32)) rfl ?_
  refine aL X108 hx (hb hby d_jdk_42m147_13) (q := 14) rfl rfl rfl ?_
  refine iL X108 hx (hb hby d_jdk_42m147_14) (q := 15) rfl rfl ?_
  refine iL X108 hx (hb hby d_jdk_42m147_15) (q := 16) rfl rfl ?_
  refine g_ishl X108 hx (hb hby d_jdk_42m147_16) (q := 17) rfl (z := (15 : Int32)) (by decide) ?_
  refine aL X108 hx (hb hby d_jdk_42m147_17) (q := 18) rfl rfl rfl ?_
  refine g_getF X108 hx hZ0 hown0 (host := "") (Or.inl (wd21 hw)) Via.refl Pv e108 (hb hby d_jdk_42m147_18) (q := 21) rfl ?_
  intro T109 X109 e109
  refine g_len X109 hx hZ0 Pa e109 (hb hby d_jdk_42m147_21) (q := 22) rfl ?_
  refine g_cp X109 hx hZ0 hown0 (wd93 hw) (wd96 hw) (wd94 hw) (wd95 hw) (us := (sub us 0 (Int32.toNatClampNeg fn) (.int 0))) Pa Wa (Or.inl ⟨rfl, rfl⟩) (by decide) (by decide) (by rcases hfn with rfl | rfl <;> decide) (by rcases hfn with rfl | rfl <;> decide) (by rcases hfn with rfl | rfl <;> decide) rfl (by rw [Wl]; exact (show 15 + (Int32.toNatClampNeg fn) ≤ 16 from (by rcases hfn with rfl | rfl <;> decide))) N107 Wy (by rw [hml]; rfl) (by decide) (W := 0) (Nat.le_of_eq rfl) (by decide) e109 (hb hby d_jdk_42m147_22) (q := 25) rfl ?_
  intro T110 h110 L110 X110 e110 N110 K110q V110
  have Va110 : Arv Z h110 vv kv .byte (16 : Int32) (ins vd (sub us 0 (Int32.toNatClampNeg fn) (.int 0)) 15 (Int32.toNatClampNeg fn)) (.int 0) := V110
  have Ln110 : (ins vd (sub us 0 (Int32.toNatClampNeg fn) (.int 0)) 15 (Int32.toNatClampNeg fn)).length = 16 := (ins_len sub_len (by rw [Wl]; exact (show 15 + (Int32.toNatClampNeg fn) ≤ 16 from (by rcases hfn with rfl | rfl <;> decide)))).trans Wl
  refine g_goto X110 hx (hb hby d_jdk_42m147_25) (q := 43) (by decide) (by decide) ?_
  have K111 : Keep h0 h110 [vv] := (Keep.refl h0 [vv]).trans K110q (allS (Or.inl (by simp)) all0)
  refine endP X110 hlk (fun _ => rfl) (lastV X110 hx hret (hb hby d_jdk_42m147_43)) ?_ (by decide) (by decide)
  rw [e110]
  exact ⟨rfl, N110, K111, Va110, Ln110⟩
def Q_psaB (Z : State) (zC : Int32) (a1 : Addr) (a2 : Addr) (t : Addr) (kt : ClassId) (us : List Value) (vv : Addr) (kv : ClassId) (vd : List Value) (fn : Int32) (h0 : Heap) (v : Option Value) (h : Heap) (L : List Loc) : Prop := v = none ∧ Fr Z.heap.size L ∧ Keep h0 h [vv] ∧ Arv Z h vv kv .byte (16 : Int32) (ins vd (sub us 0 (Int32.toNatClampNeg fn) (.int 0)) 15 (Int32.toNatClampNeg fn)) (.int 0) ∧ ((ins vd (sub us 0 (Int32.toNatClampNeg fn) (.int 0)) 15 (Int32.toNatClampNeg fn)).length = 16)
theorem rm_psaB (l : Launch) (Z : State) (a0 : Array Value) (hw : HW a0 Z) (hl : l.stackTraces = true) (zC : Int32) (SC : tSC Z zC) (PC : ¬ zC = (0 : Int32)) (hX : ExW a0 Z) (a1 : Addr) (a2 : Addr) (t : Addr) (kt : ClassId) (us : List Value) (vv : Addr) (kv : ClassId) (vd : List Value) (fn : Int32) (h0 : Heap) (O0 : Old Z Z.heap.size h0) (Pe : Exa Z h0 a2 sT1) (Pc : Fld Z h0 a2 sT1 "coder" "B" (iv 0)) (Pv : Fld Z h0 a2 sT1 "value" "[B" (.ref t)) (Pa : Arv Z h0 t kt .byte fn us (.int 0)) (Pl : (us.length = (Int32.toNatClampNeg fn))) (We : Exa Z h0 a1 sT2) (Wc : Fld Z h0 a1 sT0 "coder" "B" (iv 0)) (Wv : Fld Z h0 a1 sT0 "value" "[B" (.ref vv)) (Wa : Arv Z h0 vv kv .byte (16 : Int32) vd (.int 0)) (Wl : (vd.length = 16)) (Wy : Z.heap.size ≤ vv) (hfn : (fn = (0 : Int32) ∨ fn = (1 : Int32))) :
    Con l Z (⟨sT0, "putStringAt", "(ILjava/lang/String;)V"⟩ : MethodName) jdk_68_method_73_code 3 none ({ frames := 2, cells := 0, slots := 0, locals := 46 } : Room) #[(.ref a1), (iv 15), (.ref a2)] h0 (Q_psaB Z zC a1 a2 t kt us vv kv vd fn h0) := by
  refine Con.intro (plainFor_of_name pn1) ?_
  intro p e s m below meth c T0 X0 hx hby hml hown0 hnm hret hlk hZ0 e0
  have N0 := Fr.nil Z.heap.size
  refine castGo (g' := mkF m 0 #[.val (.ref a1), .val (iv 15), .val (.ref a2)] []) (by first | rfl | (simp [entryFrame, mkF, argsToLocals, Value.category]; done)) ?_
  show Go _ _ _ _ (T0.setTop (mkF m 0 #[.val (.ref a1), .val (iv 15), .val (.ref a2)] []))
  refine aL X0 hx (hb hby d_jdk_68m73_0) (q := 1) rfl rfl rfl ?_
  refine aL X0 hx (hb hby d_jdk_68m73_1) (q := 2) rfl rfl rfl ?_
  refine g_pvC X0 hx hZ0 hown0 (wd82 hw) (wd83 hw) (wd85 hw) (wd84 hw) (wd86 hw) (by decide) We e0 (Con.back (W := 0) (rm_infl l Z a0 hw hl zC SC PC hX a1 a2 h0 O0 Wc Pe Pc) hZ0 (wd86 hw) (wd40 hw) (by decide) (by decide)) (by rw [hml]; rfl) (lenOf pd3 rfl) rfl (Nat.le_of_eq rfl) (hb hby d_jdk_68m73_2) (q := 5) rfl (by decide) (by decide) ?_
  intro v112 T112 L112 X112 Q112
  obtain ⟨rfl, Nq112, e112⟩ := Q112
  have N112 := Fr.app N0 Nq112
  show Go _ _ _ _ (T112.setTop (mkF m 5 #[.val (.ref a1), .val (iv 15), .val (.ref a2)] []))
  refine aL X112 hx (hb hby d_jdk_68m73_5) (q := 6) rfl rfl rfl ?_
  refine aL X112 hx (hb hby d_jdk_68m73_6) (q := 7) rfl rfl rfl ?_
  refine g_getF X112 hx hZ0 hown0 (host := "") (Or.inl (wd44 hw)) Via.refl Wv e112 (hb hby d_jdk_68m73_7) (q := 10) rfl ?_
  intro T113 X113 e113
  refine iL X113 hx (hb hby d_jdk_68m73_10) (q := 11) rfl rfl ?_
  refine aL X113 hx (hb hby d_jdk_68m73_11) (q := 12) rfl rfl rfl ?_
  refine g_getF X113 hx hZ0 hown0 (host := "") (Or.inl (wd46 hw)) Via.refl Wc e113 (hb hby d_jdk_68m73_12) (q := 15) rfl ?_
  intro T114 X114 e114
  refine g_vi X114 hx hZ0 hown0 (wd88 hw) (wd89 hw) (notFace_of_selects (args := #[]) (mvT hZ0 (wd91 hw))) (wd91 hw) (wd90 hw) (by decide) Pe e114 (Con.back (W := 0) (rm_gbB l Z a0 hw hl zC SC PC hX a2 t kt us vv kv vd fn h0 O0 Pe Pc Pv Pa Pl Wa Wl Wy hfn) hZ0 (wd92 hw) (wd3 hw) (by decide) (by decide)) (by rw [hml]; rfl) (lenOf pd4 rfl) rfl (Nat.le_of_eq rfl) (hb hby d_jdk_68m73_15) (q := 18) rfl (by decide) (by decide) ?_
  intro v115 T115 L115 X115 Q115
  obtain ⟨rfl, Nq115, K115q, q115_0, q115_1⟩ := Q115
  have N115 := Fr.app N112 Nq115
  show Go _ _ _ _ (T115.setTop (mkF m 18 #[.val (.ref a1), .val (iv 15), .val (.ref a2)] []))
  have K116 : Keep h0 T115.heap [vv] := (Keep.refl h0 [vv]).trans K115q (allS (Or.inl (by simp)) all0)
  refine endP X115 hlk (fun _ => rfl) (lastV X115 hx hret (hb hby d_jdk_68m73_18)) ?_ (by decide) (by decide)
  exact ⟨rfl, N115, K116, q115_0, q115_1⟩
def Q_aapB (Z : State) (zC : Int32) (a1 : Addr) (vv : Addr) (kv : ClassId) (vd : List Value) (a2 : Addr) (t : Addr) (kt : ClassId) (us : List Value) (fn : Int32) (h0 : Heap) (v : Option Value) (h : Heap) (L : List Loc) : Prop := v = some (.ref a1) ∧ Fr Z.heap.size L ∧ Keep h0 h [a1, vv] ∧ Exa Z h a1 sT2 ∧ Fld Z h a1 sT0 "coder" "B" (iv 0) ∧ Fld Z h a1 sT0 "count" "I" (.int ((15 : Int32) + fn)) ∧ Fld Z h a1 sT0 "value" "[B" (.ref vv) ∧ Arv Z h vv kv .byte (16 : Int32) (ins vd (sub us 0 (Int32.toNatClampNeg fn) (.int 0)) 15 (Int32.toNatClampNeg fn)) (.int 0) ∧ ((ins vd (sub us 0 (Int32.toNatClampNeg fn) (.int 0)) 15 (Int32.toNatClampNeg fn)).length = 16)
theorem rm_aapB (l : Launch) (Z : State) (a0 : Array Value) (hw : HW a0 Z) (hl : l.stackTraces = true) (zC : Int32) (SC : tSC Z zC) (PC : ¬ zC = (0 : Int32)) (hX : ExW a0 Z) (a1 : Addr) (vv : Addr) (kv : ClassId) (vd : List Value) (a2 : Addr) (t : Addr) (kt : ClassId) (us : List Value) (fn : Int32) (h0 : Heap) (O0 : Old Z Z.heap.size h0) (Qe : Exa Z h0 a1 sT2) (Qc : Fld Z h0 a1 sT0 "coder" "B" (iv 0)) (Qn : Fld Z h0 a1 sT0 "count" "I" (iv 15)) (Qv : Fld Z h0 a1 sT0 "value" "[B" (.ref vv)) (Qa : Arv Z h0 vv kv .byte (16 : Int32) vd (.int 0)) (Ql : (vd.length = 16)) (Qz : Z.heap.size ≤ a1) (Qy : Z.heap.size ≤ vv) (Pe : Exa Z h0 a2 sT1) (Pc : Fld Z h0 a2 sT1 "coder" "B" (iv 0)) (Pv : Fld Z h0 a2 sT1 "value" "[B" (.ref t)) (Pa : Arv Z h0 t kt .byte fn us (.int 0)) (Pl : (us.length = (Int32.toNatClampNeg fn))) (hfn : (fn = (0 : Int32) ∨ fn = (1 : Int32))) :
    Con l Z (⟨sT0, "append", "(Ljava/lang/String;)Ljava/lang/AbstractStringBuilder;"⟩ : MethodName) jdk_68_method_22_code 3 (some (.object sT0)) ({ frames := 3, cells := 0, slots := 0, locals := 60 } : Room) #[(.ref a1), (.ref a2)] h0 (Q_aapB Z zC a1 vv kv vd a2 t kt us fn h0) := by
  refine Con.intro (plainFor_of_name pn1) ?_
  intro p e s m below meth c T0 X0 hx hby hml hown0 hnm hret hlk hZ0 e0
  have N0 := Fr.nil Z.heap.size
  refine castGo (g' := mkF m 0 #[.val (.ref a1), .val (.ref a2), .unset] []) (by first | rfl | (simp [entryFrame, mkF, argsToLocals, Value.category]; done)) ?_
  show Go _ _ _ _ (T0.setTop (mkF m 0 #[.val (.ref a1), .val (.ref a2), .unset] []))
  refine aL X0 hx (hb hby d_jdk_68m22_0) (q := 1) rfl rfl rfl ?_
  refine nnY X0 hx (hb hby d_jdk_68m22_1) (q := 9) (by decide) (by decide) ?_
  refine aL X0 hx (hb hby d_jdk_68m22_9) (q := 10) rfl rfl rfl ?_
  refine g_vi X0 hx hZ0 hown0 (wd59 hw) (wd60 hw) (notFace_of_selects (args := #[]) (mvT hZ0 (wd62 hw))) (wd62 hw) (wd61 hw) (by decide) Pe e0 (Con.back (W := 0) (rm_slen l Z a0 hw hl zC SC PC hX a2 t kt us fn h0 O0 Pe Pc Pv Pa) hZ0 (wd63 hw) (wd3 hw) (by decide) (by decide)) (by rw [hml]; rfl) (lenOf pd5 rfl) rfl (Nat.le_of_eq rfl) (hb hby d_jdk_68m22_10) (q := 13) rfl (by decide) (by decide) ?_
  intro v117 T117 L117 X117 Q117
  obtain ⟨rfl, Nq117, e117⟩ := Q117
  have N117 := Fr.app N0 Nq117
  show Go _ _ _ _ (T117.setTop (mkF m 13 #[.val (.ref a1), .val (.ref a2), .unset] [(.int fn)]))
  refine sI X117 hx (hb hby d_jdk_68m22_13) (q := 14) rfl (Ls' := #[.val (.ref a1), .val (.ref a2), .val (.int fn)]) rfl ?_
  refine aL X117 hx (hb hby d_jdk_68m22_14) (q := 15) rfl rfl rfl ?_
  refine aL X117 hx (hb hby d_jdk_68m22_15) (q := 16) rfl rfl rfl ?_
  refine g_getF X117 hx hZ0 hown0 (host := "") (Or.inl (wd70 hw)) Via.refl Qn e117 (hb hby d_jdk_68m22_16) (q := 19) rfl ?_
  intro T118 X118 e118
  refine iL X118 hx (hb hby d_jdk_68m22_19) (q := 20) rfl rfl ?_
  refine g_iadd X118 hx (hb hby d_jdk_68m22_20) (q := 21) rfl rfl ?_
  refine g_pvC X118 hx hZ0 hown0 (wd72 hw) (wd73 hw) (wd75 hw) (wd74 hw) (wd76 hw) (by decide) Qe e118 (Con.back (W := 0) (rm_ensf16 l Z a0 hw hl zC SC PC hX a1 vv kv vd ((15 : Int32) + fn) h0 O0 Qe Qc Qv Qa (by rcases hfn with rfl | rfl <;> decide)) hZ0 (wd76 hw) (wd40 hw) (by decide) (by decide)) (by rw [hml]; rfl) (lenOf pd2 rfl) rfl (Nat.le_of_eq rfl) (hb hby d_jdk_68m22_21) (q := 24) rfl (by decide) (by decide) ?_
  intro v119 T119 L119 X119 Q119
  obtain ⟨rfl, Nq119, e119⟩ := Q119
  have N119 := Fr.app N117 Nq119
  show Go _ _ _ _ (T119.setTop (mkF m 24 #[.val (.ref a1), .val (.ref a2), .val (.int fn)] []))
  refine aL X119 hx (hb hby d_jdk_68m22_24) (q := 25) rfl rfl rfl ?_
  refine aL X119 hx (hb hby d_jdk_68m22_25) (q := 26) rfl rfl rfl ?_
  refine g_getF X119 hx hZ0 hown0 (host := "") (Or.inl (wd70 hw)) Via.refl Qn e119 (hb hby d_jdk_68m22_26) (q := 29) rfl ?_
  intro T120 X120 e120
  refine aL X120 hx (hb hby d_jdk_68m22_29) (q := 30) rfl rfl rfl ?_
  refine g_pvC X120 hx hZ0 hown0 (wd77 hw) (wd78 hw) (wd80 hw) (wd79 hw) (wd81 hw) (by decide) Qe e120 (Con.back (W := 0) (rm_psaB l Z a0 hw hl zC SC PC hX a1 a2 t kt us vv kv vd fn h0 O0 Pe Pc Pv Pa Pl Qe Qc Qv Qa Ql Qy hfn) hZ0 (wd81 hw) (wd40 hw) (by decide) (by decide)) (by rw [hml]; rfl) (lenOf pd6 rfl) rfl (Nat.le_of_eq rfl) (hb hby d_jdk_68m22_30) (q := 33) rfl (by decide) (by decide) ?_
  intro v121 T121 L121 X121 Q121
  obtain ⟨rfl, Nq121, K121q, q121_0, q121_1⟩ := Q121
  have N121 := Fr.app N119 Nq121
  show Go _ _ _ _ (T121.setTop (mkF m 33 #[.val (.ref a1), .val (.ref a2), .val (.int fn)] []))
  refine aL X121 hx (hb hby d_jdk_68m22_33) (q := 34) rfl rfl rfl ?_
  refine g_dup X121 hx (hb hby d_jdk_68m22_34) (q := 35) rfl rfl ?_
  have f122 := Qe.keep K121q
  have ne123 : a1 ≠ vv := (Exa.neArv f122 q121_0 (wd31 hw))
  have f124 := Qn.keep K121q (ninS ne123 nin0)
  refine g_getF X121 hx hZ0 hown0 (host := "") (Or.inl (wd70 hw)) Via.refl f124 rfl (hb hby d_jdk_68m22_35) (q := 38) rfl ?_
  intro T125 X125 e125
  refine iL X125 hx (hb hby d_jdk_68m22_38) (q := 39) rfl rfl ?_
  refine g_iadd X125 hx (hb hby d_jdk_68m22_39) (q := 40) rfl rfl ?_
  refine g_putF X125 hx hZ0 hown0 (host := "") (Or.inl (wd70 hw)) Via.refl f124 f122 (Or.inl (wd71 hw)) (wd31 hw) (ty := .int) (by decide) rfl rfl e125 (hb hby d_jdk_68m22_40) (q := 43) rfl ?_
  intro T126 h126 X126 e126 W126
  have N126 := Fr.snoc X126 N121 Qz
  have Fw126 : Fld Z h126 a1 sT0 "count" "I" (.int ((15 : Int32) + fn)) := f124.same W126
  refine aL X126 hx (hb hby d_jdk_68m22_43) (q := 44) rfl rfl rfl ?_
  have K127 : Keep h0 T121.heap [a1, vv] := (Keep.refl h0 [a1, vv]).trans K121q (allS (Or.inl (by simp)) all0)
  have K128 : Keep h0 h126 [a1, vv] := K127.wr W126 (Or.inl (by simp))
  have f129 := f122.wr W126
  have f130 := Qc.keep K121q (ninS ne123 nin0)
  have f131 := f130.other W126 (Or.inr (slot_ne (Or.inl (wd47 hw)) (Or.inl (wd71 hw)) (by decide) (t := .byte) (t' := .int) (by decide) (by decide)))
  have f132 := Qv.keep K121q (ninS ne123 nin0)
  have f133 := f132.other W126 (Or.inr (slot_ne (Or.inl (wd45 hw)) (Or.inl (wd71 hw)) (by decide) (t := (.array .byte)) (t' := .int) (by decide) (by decide)))
  have ne134 : vv ≠ a1 := (Ne.symm ne123)
  have f135 := q121_0.other W126 ne134
  refine endP X126 hlk (fun h => by rw [hret] at h; cases h) (lastA X126 hx hret rfl rfl rfl (hb hby d_jdk_68m22_44)) ?_ (by decide) (by decide)
  rw [e126]
  exact ⟨rfl, N126, K128, f129, f131, Fw126, f133, f135, q121_1⟩
def Q_sapB (Z : State) (zC : Int32) (a1 : Addr) (vv : Addr) (kv : ClassId) (vd : List Value) (a2 : Addr) (t : Addr) (kt : ClassId) (us : List Value) (fn : Int32) (h0 : Heap) (v : Option Value) (h : Heap) (L : List Loc) : Prop := v = some (.ref a1) ∧ Fr Z.heap.size L ∧ Keep h0 h [a1, vv] ∧ Exa Z h a1 sT2 ∧ Fld Z h a1 sT0 "coder" "B" (iv 0) ∧ Fld Z h a1 sT0 "count" "I" (.int ((15 : Int32) + fn)) ∧ Fld Z h a1 sT0 "value" "[B" (.ref vv) ∧ Arv Z h vv kv .byte (16 : Int32) (ins vd (sub us 0 (Int32.toNatClampNeg fn) (.int 0)) 15 (Int32.toNatClampNeg fn)) (.int 0) ∧ ((ins vd (sub us 0 (Int32.toNatClampNeg fn) (.int 0)) 15 (Int32.toNatClampNeg fn)).length = 16)
theorem rm_sapB (l : Launch) (Z : State) (a0 : Array Value) (hw : HW a0 Z) (hl : l.stackTraces = true) (zC : Int32) (SC : tSC Z zC) (PC : ¬ zC = (0 : Int32)) (hX : ExW a0 Z) (a1 : Addr) (vv : Addr) (kv : ClassId) (vd : List Value) (a2 : Addr) (t : Addr) (kt : ClassId) (us : List Value) (fn : Int32) (h0 : Heap) (O0 : Old Z Z.heap.size h0) (Qe : Exa Z h0 a1 sT2) (Qc : Fld Z h0 a1 sT0 "coder" "B" (iv 0)) (Qn : Fld Z h0 a1 sT0 "count" "I" (iv 15)) (Qv : Fld Z h0 a1 sT0 "value" "[B" (.ref vv)) (Qa : Arv Z h0 vv kv .byte (16 : Int32) vd (.int 0)) (Ql : (vd.length = 16)) (Qz : Z.heap.size ≤ a1) (Qy : Z.heap.size ≤ vv) (Pe : Exa Z h0 a2 sT1) (Pc : Fld Z h0 a2 sT1 "coder" "B" (iv 0)) (Pv : Fld Z h0 a2 sT1 "value" "[B" (.ref t)) (Pa : Arv Z h0 t kt .byte fn us (.int 0)) (Pl : (us.length = (Int32.toNatClampNeg fn))) (hfn : (fn = (0 : Int32) ∨ fn = (1 : Int32))) :
    Con l Z (⟨sT2, "append", "(Ljava/lang/String;)Ljava/lang/StringBuilder;"⟩ : MethodName) jdk_67_method_7_code 2 (some (.object sT2)) ({ frames := 4, cells := 0, slots := 0, locals := 74 } : Room) #[(.ref a1), (.ref a2)] h0 (Q_sapB Z zC a1 vv kv vd a2 t kt us fn h0) := by
  refine Con.intro (plainFor_of_name pn2) ?_
  intro p e s m below meth c T0 X0 hx hby hml hown0 hnm hret hlk hZ0 e0
  have N0 := Fr.nil Z.heap.size
  refine castGo (g' := mkF m 0 #[.val (.ref a1), .val (.ref a2)] []) (by first | rfl | (simp [entryFrame, mkF, argsToLocals, Value.category]; done)) ?_
  show Go _ _ _ _ (T0.setTop (mkF m 0 #[.val (.ref a1), .val (.ref a2)] []))
  refine aL X0 hx (hb hby d_jdk_67m7_0) (q := 1) rfl rfl rfl ?_
  refine aL X0 hx (hb hby d_jdk_67m7_1) (q := 2) rfl rfl rfl ?_
  refine g_su X0 hx hZ0 hown0 (wd54 hw) (same_self (wd55 hw) (wd75 hw) rfl (by decide)) (wd55 hw) (wd56 hw) (wd58 hw) (by decide) Qe e0 (Con.back (W := 0) (rm_aapB l Z a0 hw hl zC SC PC hX a1 vv kv vd a2 t kt us fn h0 O0 Qe Qc Qn Qv Qa Ql Qz Qy Pe Pc Pv Pa Pl hfn) hZ0 (wd58 hw) (wd40 hw) (by decide) (by decide)) (by rw [hml]; rfl) (lenOf pd7 rfl) rfl (Nat.le_of_eq rfl) (hb hby d_jdk_67m7_2) (q := 5) rfl (by decide) (by decide) ?_
  intro v136 T136 L136 X136 Q136
  obtain ⟨rfl, Nq136, K136q, q136_0, q136_1, q136_2, q136_3, q136_4, q136_5⟩ := Q136
  have N136 := Fr.app N0 Nq136
  show Go _ _ _ _ (T136.setTop (mkF m 5 #[.val (.ref a1), .val (.ref a2)] [(.ref a1)]))
  refine g_pop X136 hx (hb hby d_jdk_67m7_5) (q := 6) rfl rfl ?_
  refine aL X136 hx (hb hby d_jdk_67m7_6) (q := 7) rfl rfl rfl ?_
  have K137 : Keep h0 T136.heap [a1, vv] := (Keep.refl h0 [a1, vv]).trans K136q (allS (Or.inl (by simp)) (allS (Or.inl (by simp)) all0))
  refine endP X136 hlk (fun h => by rw [hret] at h; cases h) (lastA X136 hx hret rfl rfl rfl (hb hby d_jdk_67m7_7)) ?_ (by decide) (by decide)
  exact ⟨rfl, N136, K137, q136_0, q136_1, q136_2, q136_3, q136_4, q136_5⟩
theorem d_jdk_29m69_0 : decode jdk_29_method_69_code 0 = .ok (.iload_n 0, 1) := by decide +kernel
theorem d_jdk_29m69_1 : decode jdk_29_method_69_code 1 = .ok (.iload_n 1, 1) := by decide +kernel
theorem d_jdk_29m69_2 : decode jdk_29_method_69_code 2 = .ok (.if_icmp .gt 7, 3) := by decide +kernel
theorem d_jdk_29m69_5 : decode jdk_29_method_69_code 5 = .ok (.iload_n 0, 1) := by decide +kernel
theorem d_jdk_29m69_6 : decode jdk_29_method_69_code 6 = .ok (.goto 4, 3) := by decide +kernel
theorem d_jdk_29m69_10 : decode jdk_29_method_69_code 10 = .ok (.ireturn, 1) := by decide +kernel
def Q_mn16_34 (Z : State) (zC : Int32) (h0 : Heap) (v : Option Value) (h : Heap) (L : List Loc) : Prop := v = some (iv 16) ∧ Fr Z.heap.size L ∧ h = h0
theorem pf3 : plainFor (⟨"java/lang/Math", "min", "(II)I"⟩ : MethodName) = true := by decide +kernel
theorem rm_mn16_34 (l : Launch) (Z : State) (a0 : Array Value) (hw : HW a0 Z) (hl : l.stackTraces = true) (zC : Int32) (SC : tSC Z zC) (PC : ¬ zC = (0 : Int32)) (hX : ExW a0 Z)  (h0 : Heap) (O0 : Old Z Z.heap.size h0)  :
    Con l Z (⟨"java/lang/Math", "min", "(II)I"⟩ : MethodName) jdk_29_method_69_code 2 (some .int) ({ frames := 0, cells := 0, slots := 0, locals := 0 } : Room) #[(iv 16), (iv 34)] h0 (Q_mn16_34 Z zC h0) := by
  refine Con.intro pf3 ?_
  intro p e s m below meth c T0 X0 hx hby hml hown0 hnm hret hlk hZ0 e0
  have N0 := Fr.nil Z.heap.size
  refine castGo (g' := mkF m 0 #[.val (iv 16), .val (iv 34)] []) (by first | rfl | (simp [entryFrame, mkF, argsToLocals, Value.category]; done)) ?_
  show Go _ _ _ _ (T0.setTop (mkF m 0 #[.val (iv 16), .val (iv 34)] []))
  refine iL X0 hx (hb hby d_jdk_29m69_0) (q := 1) rfl rfl ?_
  refine iL X0 hx (hb hby d_jdk_29m69_1) (q := 2) rfl rfl ?_
  refine icN X0 hx (hb hby d_jdk_29m69_2) (q := 5) rfl (by decide) ?_
  refine iL X0 hx (hb hby d_jdk_29m69_5) (q := 6) rfl rfl ?_
  refine g_goto X0 hx (hb hby d_jdk_29m69_6) (q := 10) (by decide) (by decide) ?_
  refine endP X0 hlk (fun h => by rw [hret] at h; cases h) (lastI X0 hx hret (hb hby d_jdk_29m69_10)) ?_ (by decide) (by decide)
  rw [e0]
  exact ⟨rfl, N0, rfl⟩
theorem d_jdk_65m121_0 : decode jdk_65_method_121_code 0 = .ok (.iload_n 1, 1) := by decide +kernel
theorem d_jdk_65m121_1 : decode jdk_65_method_121_code 1 = .ok (.aload_n 0, 1) := by decide +kernel
theorem d_jdk_65m121_2 : decode jdk_65_method_121_code 2 = .ok (.arraylength, 1) := by decide +kernel
theorem d_jdk_65m121_3 : decode jdk_65_method_121_code 3 = .ok (.if_icmp .ne 11, 3) := by decide +kernel
theorem d_jdk_65m121_14 : decode jdk_65_method_121_code 14 = .ok (.iload_n 1, 1) := by decide +kernel
theorem d_jdk_65m121_15 : decode jdk_65_method_121_code 15 = .ok (.newarray .byte, 2) := by decide +kernel
theorem d_jdk_65m121_17 : decode jdk_65_method_121_code 17 = .ok (.astore_n 2, 1) := by decide +kernel
theorem d_jdk_65m121_18 : decode jdk_65_method_121_code 18 = .ok (.aload_n 0, 1) := by decide +kernel
theorem d_jdk_65m121_19 : decode jdk_65_method_121_code 19 = .ok (.iconst 0, 1) := by decide +kernel
theorem d_jdk_65m121_20 : decode jdk_65_method_121_code 20 = .ok (.aload_n 2, 1) := by decide +kernel
theorem d_jdk_65m121_21 : decode jdk_65_method_121_code 21 = .ok (.iconst 0, 1) := by decide +kernel
theorem d_jdk_65m121_22 : decode jdk_65_method_121_code 22 = .ok (.aload_n 0, 1) := by decide +kernel
theorem d_jdk_65m121_23 : decode jdk_65_method_121_code 23 = .ok (.arraylength, 1) := by decide +kernel
theorem d_jdk_65m121_24 : decode jdk_65_method_121_code 24 = .ok (.iload_n 1, 1) := by decide +kernel
theorem d_jdk_65m121_25 : decode jdk_65_method_121_code 25 = .ok (.invokestatic 304, 3) := by decide +kernel
theorem wd253 {a0 : Array Value} {Z : State} (hw : HW a0 Z) : ((Jvm.Cond.code ({ cls := "java/lang/Math", name := "min", desc := "(II)I" } : Jvm.MethodName) jdk_29_method_69_code (2 : Nat) (Option.some Jvm.ClassFile.FieldType.int)) : Jvm.Cond).before a0 Z = true := hw _ (List.mem_of_getElem? (i := 253) rfl)
theorem wd244 {a0 : Array Value} {Z : State} (hw : HW a0 Z) : ((Jvm.Cond.initialized "java/lang/Math") : Jvm.Cond).before a0 Z = true := hw _ (List.mem_of_getElem? (i := 244) rfl)
theorem pd8 : parseMethodDescriptor "(II)I" = some ⟨[.int, .int], some .int⟩ := by decide +kernel
theorem wd251 {a0 : Array Value} {Z : State} (hw : HW a0 Z) : ((Jvm.Cond.methodLink "java/util/Arrays" (304 : Nat) ({ cls := "java/lang/Math", name := "min", desc := "(II)I" } : Jvm.MethodName)) : Jvm.Cond).before a0 Z = true := hw _ (List.mem_of_getElem? (i := 251) rfl)
theorem wd252 {a0 : Array Value} {Z : State} (hw : HW a0 Z) : ((Jvm.Cond.static ({ cls := "java/lang/Math", name := "min", desc := "(II)I" } : Jvm.MethodName)) : Jvm.Cond).before a0 Z = true := hw _ (List.mem_of_getElem? (i := 252) rfl)
theorem d_jdk_65m121_28 : decode jdk_65_method_121_code 28 = .ok (.invokestatic 150, 3) := by decide +kernel
theorem wd254 {a0 : Array Value} {Z : State} (hw : HW a0 Z) : ((Jvm.Cond.methodLink "java/util/Arrays" (150 : Nat) ({ cls := "java/lang/System", name := "arraycopy", desc := "(Ljava/lang/Object;ILjava/lang/Object;II)V" } : Jvm.MethodName)) : Jvm.Cond).before a0 Z = true := hw _ (List.mem_of_getElem? (i := 254) rfl)
theorem d_jdk_65m121_31 : decode jdk_65_method_121_code 31 = .ok (.aload_n 2, 1) := by decide +kernel
theorem d_jdk_65m121_32 : decode jdk_65_method_121_code 32 = .ok (.areturn, 1) := by decide +kernel
def Q_cpb16_34 (Z : State) (zC : Int32) (vv : Addr) (kv : ClassId) (vd : List Value) (h0 : Heap) (v : Option Value) (h : Heap) (L : List Loc) : Prop := ∃ (c : Addr), ∃ (kc : ClassId), v = some (.ref c) ∧ Fr Z.heap.size L ∧ Keep h0 h [] ∧ h0.size ≤ c ∧ Arv Z h c kc .byte (34 : Int32) (ins (List.replicate 34 (iv 0)) (sub vd 0 16 (.int 0)) 0 16) (.int 0) ∧ Exa Z h c "[B" ∧ ((ins (List.replicate 34 (iv 0)) (sub vd 0 16 (.int 0)) 0 16).length = 34)
theorem pn4 : plainName "java/util/Arrays" = true := by first | (simp [plainName, overriddenIn]; done) | decide +kernel
theorem rm_cpb16_34 (l : Launch) (Z : State) (a0 : Array Value) (hw : HW a0 Z) (hl : l.stackTraces = true) (zC : Int32) (SC : tSC Z zC) (PC : ¬ zC = (0 : Int32)) (hX : ExW a0 Z) (vv : Addr) (kv : ClassId) (vd : List Value) (h0 : Heap) (O0 : Old Z Z.heap.size h0) (Qa : Arv Z h0 vv kv .byte (16 : Int32) vd (.int 0)) (Ql : (vd.length = 16)) :
    Con l Z (⟨"java/util/Arrays", "copyOf", "([BI)[B"⟩ : MethodName) jdk_65_method_121_code 3 (some (.array .byte)) ({ frames := 1, cells := 1, slots := 34, locals := 31 } : Room) #[(.ref vv), (iv 34)] h0 (Q_cpb16_34 Z zC vv kv vd h0) := by
  refine Con.intro (plainFor_of_name pn4) ?_
  intro p e s m below meth c T0 X0 hx hby hml hown0 hnm hret hlk hZ0 e0
  have N0 := Fr.nil Z.heap.size
  refine castGo (g' := mkF m 0 #[.val (.ref vv), .val (iv 34), .unset] []) (by first | rfl | (simp [entryFrame, mkF, argsToLocals, Value.category]; done)) ?_
  show Go _ _ _ _ (T0.setTop (mkF m 0 #[.val (.ref vv), .val (iv 34), .unset] []))
  refine iL X0 hx (hb hby d_jdk_65m121_0) (q := 1) rfl rfl ?_
  refine aL X0 hx (hb hby d_jdk_65m121_1) (q := 2) rfl rfl rfl ?_
  refine g_len X0 hx hZ0 Qa e0 (hb hby d_jdk_65m121_2) (q := 3) rfl ?_
  refine icY X0 hx (hb hby d_jdk_65m121_3) (q := 14) (by decide) (by decide) (by decide) ?_
  refine iL X0 hx (hb hby d_jdk_65m121_14) (q := 15) rfl rfl ?_
  refine g_newE X0 hx hZ0 (aty := .byte) (wd16 hw) (by decide) (n := 34) (by decide) (by decide) (by decide) (by decide) (ad := "[B") (by decide) e0 (hb hby d_jdk_65m121_15) (q := 17) rfl ?_
  intro T138 h138 k138 b138 g138 X138 e138 E138 V138 G138
  have Va138 : Arv Z h138 b138 k138 .byte (34 : Int32) (List.replicate 34 (iv 0)) (.int 0) := V138
  refine sA X138 hx (hb hby d_jdk_65m121_17) (q := 18) rfl rfl (Ls' := #[.val (.ref vv), .val (iv 34), .val (.ref b138)]) rfl ?_
  refine aL X138 hx (hb hby d_jdk_65m121_18) (q := 19) rfl rfl rfl ?_
  refine cI X138 hx (hb hby d_jdk_65m121_19) (q := 20) rfl (z := (0 : Int32)) rfl ?_
  refine aL X138 hx (hb hby d_jdk_65m121_20) (q := 21) rfl rfl rfl ?_
  refine cI X138 hx (hb hby d_jdk_65m121_21) (q := 22) rfl (z := (0 : Int32)) rfl ?_
  refine aL X138 hx (hb hby d_jdk_65m121_22) (q := 23) rfl rfl rfl ?_
  have f139 := Qa.ext E138
  refine g_len X138 hx hZ0 f139 e138 (hb hby d_jdk_65m121_23) (q := 24) rfl ?_
  refine iL X138 hx (hb hby d_jdk_65m121_24) (q := 25) rfl rfl ?_
  have f141 := O0.ext E138
  refine g_st X138 hx hZ0 hown0 (wd251 hw) (wd252 hw) (wd244 hw) (wd253 hw) (by decide) e138 (Con.back (W := 4) (rm_mn16_34 l Z a0 hw hl zC SC PC hX  h138 f141 ) hZ0 (wd253 hw) (wd244 hw) (by decide) (by decide)) (by rw [hml]; rfl) (lenOf pd8 rfl) rfl (Nat.le_of_eq rfl) (hb hby d_jdk_65m121_25) (q := 28) rfl (by decide) (by decide) ?_
  intro v140 T140 L140 X140 Q140
  obtain ⟨rfl, Nq140, e140⟩ := Q140
  have N140 := Fr.app N0 Nq140
  show Go _ _ _ _ (T140.setTop (mkF m 28 #[.val (.ref vv), .val (iv 34), .val (.ref b138)] [(iv 16), (iv 0), (.ref b138), (iv 0), (.ref vv)]))
  have gz143 : Z.heap.size ≤ b138 := Nat.le_trans O0.2.1 (Nat.le_of_eq g138.symm)
  refine g_cp X140 hx hZ0 hown0 (wd254 hw) (wd96 hw) (wd94 hw) (wd95 hw) (us := (sub vd 0 16 (.int 0))) f139 Va138 (Or.inl ⟨rfl, rfl⟩) (by decide) (by decide) (by decide) (by decide) (by decide) rfl (show 0 + 16 ≤ 34 from (by decide)) N140 gz143 (by rw [hml]; rfl) (by decide) (W := 0) (Nat.le_of_eq rfl) (by decide) e140 (hb hby d_jdk_65m121_28) (q := 31) rfl ?_
  intro T142 h142 L142 X142 e142 N142 K142q V142
  have Va142 : Arv Z h142 b138 k138 .byte (34 : Int32) (ins (List.replicate 34 (iv 0)) (sub vd 0 16 (.int 0)) 0 16) (.int 0) := V142
  have Ln142 : (ins (List.replicate 34 (iv 0)) (sub vd 0 16 (.int 0)) 0 16).length = 34 := (ins_len sub_len (show 0 + 16 ≤ 34 from (by decide))).trans rfl
  refine aL X142 hx (hb hby d_jdk_65m121_31) (q := 32) rfl rfl rfl ?_
  have K144 : Keep h0 h138 [] := (Keep.refl h0 []).ext E138
  have gh145 : h0.size ≤ b138 := Nat.le_trans (Nat.le_refl _) (Nat.le_of_eq g138.symm)
  have K146 : Keep h0 h142 [] := K144.trans K142q (allS (Or.inr gh145) all0)
  have f147 := G138.keep K142q
  refine endP X142 hlk (fun h => by rw [hret] at h; cases h) (lastA X142 hx hret rfl rfl rfl (hb hby d_jdk_65m121_32)) ?_ (by decide) (by decide)
  rw [e142]
  exact ⟨b138, k138, rfl, N142, K146, gh145, Va142, f147, Ln142⟩
theorem d_jdk_29m65_0 : decode jdk_29_method_65_code 0 = .ok (.iload_n 0, 1) := by decide +kernel
theorem d_jdk_29m65_1 : decode jdk_29_method_65_code 1 = .ok (.iload_n 1, 1) := by decide +kernel
theorem d_jdk_29m65_2 : decode jdk_29_method_65_code 2 = .ok (.if_icmp .lt 7, 3) := by decide +kernel
theorem d_jdk_29m65_9 : decode jdk_29_method_65_code 9 = .ok (.iload_n 1, 1) := by decide +kernel
theorem d_jdk_29m65_10 : decode jdk_29_method_65_code 10 = .ok (.ireturn, 1) := by decide +kernel
def Q_mx16 (Z : State) (zC : Int32) (fn : Int32) (h0 : Heap) (v : Option Value) (h : Heap) (L : List Loc) : Prop := v = some (iv 18) ∧ Fr Z.heap.size L ∧ h = h0
theorem pf5 : plainFor (⟨"java/lang/Math", "max", "(II)I"⟩ : MethodName) = true := by decide +kernel
theorem rm_mx16 (l : Launch) (Z : State) (a0 : Array Value) (hw : HW a0 Z) (hl : l.stackTraces = true) (zC : Int32) (SC : tSC Z zC) (PC : ¬ zC = (0 : Int32)) (hX : ExW a0 Z) (fn : Int32) (h0 : Heap) (O0 : Old Z Z.heap.size h0) (hfn : (fn = (1 : Int32) ∨ fn = (2 : Int32) ∨ fn = (3 : Int32))) :
    Con l Z (⟨"java/lang/Math", "max", "(II)I"⟩ : MethodName) jdk_29_method_65_code 2 (some .int) ({ frames := 0, cells := 0, slots := 0, locals := 0 } : Room) #[(.int fn), (iv 18)] h0 (Q_mx16 Z zC fn h0) := by
  refine Con.intro pf5 ?_
  intro p e s m below meth c T0 X0 hx hby hml hown0 hnm hret hlk hZ0 e0
  have N0 := Fr.nil Z.heap.size
  refine castGo (g' := mkF m 0 #[.val (.int fn), .val (iv 18)] []) (by first | rfl | (simp [entryFrame, mkF, argsToLocals, Value.category]; done)) ?_
  show Go _ _ _ _ (T0.setTop (mkF m 0 #[.val (.int fn), .val (iv 18)] []))
  refine iL X0 hx (hb hby d_jdk_29m65_0) (q := 1) rfl rfl ?_
  refine iL X0 hx (hb hby d_jdk_29m65_1) (q := 2) rfl rfl ?_
  refine icY X0 hx (hb hby d_jdk_29m65_2) (q := 9) (by decide) (by decide) (by rcases hfn with rfl | rfl | rfl <;> decide) ?_
  refine iL X0 hx (hb hby d_jdk_29m65_9) (q := 10) rfl rfl ?_
  refine endP X0 hlk (fun h => by rw [hret] at h; cases h) (lastI X0 hx hret (hb hby d_jdk_29m65_10)) ?_ (by decide) (by decide)
  rw [e0]
  exact ⟨rfl, N0, rfl⟩
theorem d_jdk_48m27_0 : decode jdk_48_method_27_code 0 = .ok (.iload_n 0, 1) := by decide +kernel
theorem d_jdk_48m27_1 : decode jdk_48_method_27_code 1 = .ok (.iload_n 1, 1) := by decide +kernel
theorem d_jdk_48m27_2 : decode jdk_48_method_27_code 2 = .ok (.iload_n 2, 1) := by decide +kernel
theorem d_jdk_48m27_3 : decode jdk_48_method_27_code 3 = .ok (.invokestatic 194, 3) := by decide +kernel
theorem wd245 {a0 : Array Value} {Z : State} (hw : HW a0 Z) : ((Jvm.Cond.code ({ cls := "java/lang/Math", name := "max", desc := "(II)I" } : Jvm.MethodName) jdk_29_method_65_code (2 : Nat) (Option.some Jvm.ClassFile.FieldType.int)) : Jvm.Cond).before a0 Z = true := hw _ (List.mem_of_getElem? (i := 245) rfl)
theorem wd242 {a0 : Array Value} {Z : State} (hw : HW a0 Z) : ((Jvm.Cond.methodLink "jdk/internal/util/ArraysSupport" (194 : Nat) ({ cls := "java/lang/Math", name := "max", desc := "(II)I" } : Jvm.MethodName)) : Jvm.Cond).before a0 Z = true := hw _ (List.mem_of_getElem? (i := 242) rfl)
theorem wd243 {a0 : Array Value} {Z : State} (hw : HW a0 Z) : ((Jvm.Cond.static ({ cls := "java/lang/Math", name := "max", desc := "(II)I" } : Jvm.MethodName)) : Jvm.Cond).before a0 Z = true := hw _ (List.mem_of_getElem? (i := 243) rfl)
theorem d_jdk_48m27_6 : decode jdk_48_method_27_code 6 = .ok (.iadd, 1) := by decide +kernel
theorem d_jdk_48m27_7 : decode jdk_48_method_27_code 7 = .ok (.istore_n 3, 1) := by decide +kernel
theorem d_jdk_48m27_8 : decode jdk_48_method_27_code 8 = .ok (.iconst 0, 1) := by decide +kernel
theorem d_jdk_48m27_9 : decode jdk_48_method_27_code 9 = .ok (.iload_n 3, 1) := by decide +kernel
theorem d_jdk_48m27_10 : decode jdk_48_method_27_code 10 = .ok (.if_icmp .ge 11, 3) := by decide +kernel
theorem d_jdk_48m27_13 : decode jdk_48_method_27_code 13 = .ok (.iload_n 3, 1) := by decide +kernel
theorem d_jdk_48m27_14 : decode jdk_48_method_27_code 14 = .ok (.ldc 200, 2) := by decide +kernel
theorem wd246 {a0 : Array Value} {Z : State} (hw : HW a0 Z) : ((Jvm.Cond.constant "jdk/internal/util/ArraysSupport" (200 : Nat) (2147483639 : Int32)) : Jvm.Cond).before a0 Z = true := hw _ (List.mem_of_getElem? (i := 246) rfl)
theorem d_jdk_48m27_16 : decode jdk_48_method_27_code 16 = .ok (.if_icmp .gt 5, 3) := by decide +kernel
theorem d_jdk_48m27_19 : decode jdk_48_method_27_code 19 = .ok (.iload_n 3, 1) := by decide +kernel
theorem d_jdk_48m27_20 : decode jdk_48_method_27_code 20 = .ok (.ireturn, 1) := by decide +kernel
def Q_nl16 (Z : State) (zC : Int32) (fn : Int32) (h0 : Heap) (v : Option Value) (h : Heap) (L : List Loc) : Prop := v = some (iv 34) ∧ Fr Z.heap.size L ∧ h = h0
theorem pn6 : plainName "jdk/internal/util/ArraysSupport" = true := by first | (simp [plainName, overriddenIn]; done) | decide +kernel
theorem rm_nl16 (l : Launch) (Z : State) (a0 : Array Value) (hw : HW a0 Z) (hl : l.stackTraces = true) (zC : Int32) (SC : tSC Z zC) (PC : ¬ zC = (0 : Int32)) (hX : ExW a0 Z) (fn : Int32) (h0 : Heap) (O0 : Old Z Z.heap.size h0) (hfn : (fn = (1 : Int32) ∨ fn = (2 : Int32) ∨ fn = (3 : Int32))) :
    Con l Z (⟨"jdk/internal/util/ArraysSupport", "newLength", "(III)I"⟩ : MethodName) jdk_48_method_27_code 4 (some .int) ({ frames := 1, cells := 0, slots := 0, locals := 14 } : Room) #[(iv 16), (.int fn), (iv 18)] h0 (Q_nl16 Z zC fn h0) := by
  refine Con.intro (plainFor_of_name pn6) ?_
  intro p e s m below meth c T0 X0 hx hby hml hown0 hnm hret hlk hZ0 e0
  have N0 := Fr.nil Z.heap.size
  refine castGo (g' := mkF m 0 #[.val (iv 16), .val (.int fn), .val (iv 18), .unset] []) (by first | rfl | (simp [entryFrame, mkF, argsToLocals, Value.category]; done)) ?_
  show Go _ _ _ _ (T0.setTop (mkF m 0 #[.val (iv 16), .val (.int fn), .val (iv 18), .unset] []))
  refine iL X0 hx (hb hby d_jdk_48m27_0) (q := 1) rfl rfl ?_
  refine iL X0 hx (hb hby d_jdk_48m27_1) (q := 2) rfl rfl ?_
  refine iL X0 hx (hb hby d_jdk_48m27_2) (q := 3) rfl rfl ?_
  refine g_st X0 hx hZ0 hown0 (wd242 hw) (wd243 hw) (wd244 hw) (wd245 hw) (by decide) e0 (Con.back (W := 1) (rm_mx16 l Z a0 hw hl zC SC PC hX fn h0 O0 hfn) hZ0 (wd245 hw) (wd244 hw) (by decide) (by decide)) (by rw [hml]; rfl) (lenOf pd8 rfl) rfl (Nat.le_of_eq rfl) (hb hby d_jdk_48m27_3) (q := 6) rfl (by decide) (by decide) ?_
  intro v148 T148 L148 X148 Q148
  obtain ⟨rfl, Nq148, e148⟩ := Q148
  have N148 := Fr.app N0 Nq148
  show Go _ _ _ _ (T148.setTop (mkF m 6 #[.val (iv 16), .val (.int fn), .val (iv 18), .unset] [(iv 18), (iv 16)]))
  refine g_iadd X148 hx (hb hby d_jdk_48m27_6) (q := 7) rfl (z := (34 : Int32)) (by decide) ?_
  refine sI X148 hx (hb hby d_jdk_48m27_7) (q := 8) rfl (Ls' := #[.val (iv 16), .val (.int fn), .val (iv 18), .val (iv 34)]) rfl ?_
  refine cI X148 hx (hb hby d_jdk_48m27_8) (q := 9) rfl (z := (0 : Int32)) rfl ?_
  refine iL X148 hx (hb hby d_jdk_48m27_9) (q := 10) rfl rfl ?_
  refine icN X148 hx (hb hby d_jdk_48m27_10) (q := 13) rfl (by decide) ?_
  refine iL X148 hx (hb hby d_jdk_48m27_13) (q := 14) rfl rfl ?_
  refine g_ldcI X148 hx (a1 := #[]) hZ0 hown0 (wd246 hw) (hb hby d_jdk_48m27_14) (q := 16) rfl ?_
  refine icN X148 hx (hb hby d_jdk_48m27_16) (q := 19) rfl (by decide) ?_
  refine iL X148 hx (hb hby d_jdk_48m27_19) (q := 20) rfl rfl ?_
  refine endP X148 hlk (fun h => by rw [hret] at h; cases h) (lastI X148 hx hret (hb hby d_jdk_48m27_20)) ?_ (by decide) (by decide)
  rw [e148]
  exact ⟨rfl, N148, rfl⟩
theorem d_jdk_68m10_0 : decode jdk_68_method_10_code 0 = .ok (.aload_n 0, 1) := by decide +kernel
theorem d_jdk_68m10_1 : decode jdk_68_method_10_code 1 = .ok (.getfield 15, 3) := by decide +kernel
theorem d_jdk_68m10_4 : decode jdk_68_method_10_code 4 = .ok (.arraylength, 1) := by decide +kernel
theorem d_jdk_68m10_5 : decode jdk_68_method_10_code 5 = .ok (.istore_n 2, 1) := by decide +kernel
theorem d_jdk_68m10_6 : decode jdk_68_method_10_code 6 = .ok (.iload_n 1, 1) := by decide +kernel
theorem d_jdk_68m10_7 : decode jdk_68_method_10_code 7 = .ok (.aload_n 0, 1) := by decide +kernel
theorem d_jdk_68m10_8 : decode jdk_68_method_10_code 8 = .ok (.getfield 22, 3) := by decide +kernel
theorem d_jdk_68m10_11 : decode jdk_68_method_10_code 11 = .ok (.ishl, 1) := by decide +kernel
theorem d_jdk_68m10_12 : decode jdk_68_method_10_code 12 = .ok (.istore_n 3, 1) := by decide +kernel
theorem d_jdk_68m10_13 : decode jdk_68_method_10_code 13 = .ok (.iload_n 3, 1) := by decide +kernel
theorem d_jdk_68m10_14 : decode jdk_68_method_10_code 14 = .ok (.iload_n 2, 1) := by decide +kernel
theorem d_jdk_68m10_15 : decode jdk_68_method_10_code 15 = .ok (.isub, 1) := by decide +kernel
theorem d_jdk_68m10_16 : decode jdk_68_method_10_code 16 = .ok (.istore 4, 2) := by decide +kernel
theorem d_jdk_68m10_18 : decode jdk_68_method_10_code 18 = .ok (.iload_n 2, 1) := by decide +kernel
theorem d_jdk_68m10_19 : decode jdk_68_method_10_code 19 = .ok (.iload 4, 2) := by decide +kernel
theorem d_jdk_68m10_21 : decode jdk_68_method_10_code 21 = .ok (.iload_n 2, 1) := by decide +kernel
theorem d_jdk_68m10_22 : decode jdk_68_method_10_code 22 = .ok (.iconst 2, 1) := by decide +kernel
theorem d_jdk_68m10_23 : decode jdk_68_method_10_code 23 = .ok (.aload_n 0, 1) := by decide +kernel
theorem d_jdk_68m10_24 : decode jdk_68_method_10_code 24 = .ok (.getfield 22, 3) := by decide +kernel
theorem d_jdk_68m10_27 : decode jdk_68_method_10_code 27 = .ok (.ishl, 1) := by decide +kernel
theorem d_jdk_68m10_28 : decode jdk_68_method_10_code 28 = .ok (.iadd, 1) := by decide +kernel
theorem d_jdk_68m10_29 : decode jdk_68_method_10_code 29 = .ok (.invokestatic 114, 3) := by decide +kernel
theorem wd241 {a0 : Array Value} {Z : State} (hw : HW a0 Z) : ((Jvm.Cond.code ({ cls := "jdk/internal/util/ArraysSupport", name := "newLength", desc := "(III)I" } : Jvm.MethodName) jdk_48_method_27_code (4 : Nat) (Option.some Jvm.ClassFile.FieldType.int)) : Jvm.Cond).before a0 Z = true := hw _ (List.mem_of_getElem? (i := 241) rfl)
theorem wd240 {a0 : Array Value} {Z : State} (hw : HW a0 Z) : ((Jvm.Cond.initialized "jdk/internal/util/ArraysSupport") : Jvm.Cond).before a0 Z = true := hw _ (List.mem_of_getElem? (i := 240) rfl)
theorem pd9 : parseMethodDescriptor "(III)I" = some ⟨[.int, .int, .int], some .int⟩ := by decide +kernel
theorem wd238 {a0 : Array Value} {Z : State} (hw : HW a0 Z) : ((Jvm.Cond.methodLink "java/lang/AbstractStringBuilder" (114 : Nat) ({ cls := "jdk/internal/util/ArraysSupport", name := "newLength", desc := "(III)I" } : Jvm.MethodName)) : Jvm.Cond).before a0 Z = true := hw _ (List.mem_of_getElem? (i := 238) rfl)
theorem wd239 {a0 : Array Value} {Z : State} (hw : HW a0 Z) : ((Jvm.Cond.static ({ cls := "jdk/internal/util/ArraysSupport", name := "newLength", desc := "(III)I" } : Jvm.MethodName)) : Jvm.Cond).before a0 Z = true := hw _ (List.mem_of_getElem? (i := 239) rfl)
theorem d_jdk_68m10_32 : decode jdk_68_method_10_code 32 = .ok (.istore 5, 2) := by decide +kernel
theorem d_jdk_68m10_34 : decode jdk_68_method_10_code 34 = .ok (.iload 5, 2) := by decide +kernel
theorem d_jdk_68m10_36 : decode jdk_68_method_10_code 36 = .ok (.ldc 39, 2) := by decide +kernel
theorem wd247 {a0 : Array Value} {Z : State} (hw : HW a0 Z) : ((Jvm.Cond.constant "java/lang/AbstractStringBuilder" (39 : Nat) (2147483647 : Int32)) : Jvm.Cond).before a0 Z = true := hw _ (List.mem_of_getElem? (i := 247) rfl)
theorem d_jdk_68m10_38 : decode jdk_68_method_10_code 38 = .ok (.if_icmp .ne 13, 3) := by decide +kernel
theorem d_jdk_68m10_51 : decode jdk_68_method_10_code 51 = .ok (.iload 5, 2) := by decide +kernel
theorem d_jdk_68m10_53 : decode jdk_68_method_10_code 53 = .ok (.aload_n 0, 1) := by decide +kernel
theorem d_jdk_68m10_54 : decode jdk_68_method_10_code 54 = .ok (.getfield 22, 3) := by decide +kernel
theorem d_jdk_68m10_57 : decode jdk_68_method_10_code 57 = .ok (.ishr, 1) := by decide +kernel
theorem d_jdk_68m10_58 : decode jdk_68_method_10_code 58 = .ok (.ireturn, 1) := by decide +kernel
def Q_nc16 (Z : State) (zC : Int32) (a1 : Addr) (vv : Addr) (kv : ClassId) (vd : List Value) (fn : Int32) (h0 : Heap) (v : Option Value) (h : Heap) (L : List Loc) : Prop := v = some (iv 34) ∧ Fr Z.heap.size L ∧ h = h0
theorem rm_nc16 (l : Launch) (Z : State) (a0 : Array Value) (hw : HW a0 Z) (hl : l.stackTraces = true) (zC : Int32) (SC : tSC Z zC) (PC : ¬ zC = (0 : Int32)) (hX : ExW a0 Z) (a1 : Addr) (vv : Addr) (kv : ClassId) (vd : List Value) (fn : Int32) (h0 : Heap) (O0 : Old Z Z.heap.size h0) (Qe : Exa Z h0 a1 sT2) (Qc : Fld Z h0 a1 sT0 "coder" "B" (iv 0)) (Qv : Fld Z h0 a1 sT0 "value" "[B" (.ref vv)) (Qa : Arv Z h0 vv kv .byte (16 : Int32) vd (.int 0)) (hfn : (fn = (17 : Int32) ∨ fn = (18 : Int32) ∨ fn = (19 : Int32))) :
    Con l Z (⟨sT0, "newCapacity", "(I)I"⟩ : MethodName) jdk_68_method_10_code 6 (some .int) ({ frames := 2, cells := 0, slots := 0, locals := 29 } : Room) #[(.ref a1), (.int fn)] h0 (Q_nc16 Z zC a1 vv kv vd fn h0) := by
  refine Con.intro (plainFor_of_name pn1) ?_
  intro p e s m below meth c T0 X0 hx hby hml hown0 hnm hret hlk hZ0 e0
  have N0 := Fr.nil Z.heap.size
  refine castGo (g' := mkF m 0 #[.val (.ref a1), .val (.int fn), .unset, .unset, .unset, .unset] []) (by first | rfl | (simp [entryFrame, mkF, argsToLocals, Value.category]; done)) ?_
  show Go _ _ _ _ (T0.setTop (mkF m 0 #[.val (.ref a1), .val (.int fn), .unset, .unset, .unset, .unset] []))
  refine aL X0 hx (hb hby d_jdk_68m10_0) (q := 1) rfl rfl rfl ?_
  refine g_getF X0 hx hZ0 hown0 (host := "") (Or.inl (wd44 hw)) Via.refl Qv e0 (hb hby d_jdk_68m10_1) (q := 4) rfl ?_
  intro T149 X149 e149
  refine g_len X149 hx hZ0 Qa e149 (hb hby d_jdk_68m10_4) (q := 5) rfl ?_
  refine sI X149 hx (hb hby d_jdk_68m10_5) (q := 6) rfl (Ls' := #[.val (.ref a1), .val (.int fn), .val (iv 16), .unset, .unset, .unset]) rfl ?_
  refine iL X149 hx (hb hby d_jdk_68m10_6) (q := 7) rfl rfl ?_
  refine aL X149 hx (hb hby d_jdk_68m10_7) (q := 8) rfl rfl rfl ?_
  refine g_getF X149 hx hZ0 hown0 (host := "") (Or.inl (wd46 hw)) Via.refl Qc e149 (hb hby d_jdk_68m10_8) (q := 11) rfl ?_
  intro T150 X150 e150
  refine g_ishl X150 hx (hb hby d_jdk_68m10_11) (q := 12) rfl (z := fn) (shl_zero _) ?_
  refine sI X150 hx (hb hby d_jdk_68m10_12) (q := 13) rfl (Ls' := #[.val (.ref a1), .val (.int fn), .val (iv 16), .val (.int fn), .unset, .unset]) rfl ?_
  refine iL X150 hx (hb hby d_jdk_68m10_13) (q := 14) rfl rfl ?_
  refine iL X150 hx (hb hby d_jdk_68m10_14) (q := 15) rfl rfl ?_
  refine g_isub X150 hx (hb hby d_jdk_68m10_15) (q := 16) rfl rfl ?_
  refine sIw X150 hx (hb hby d_jdk_68m10_16) (q := 18) rfl (Ls' := #[.val (.ref a1), .val (.int fn), .val (iv 16), .val (.int fn), .val (.int (fn - (16 : Int32))), .unset]) rfl ?_
  refine iL X150 hx (hb hby d_jdk_68m10_18) (q := 19) rfl rfl ?_
  refine iLw X150 hx (hb hby d_jdk_68m10_19) (q := 21) rfl rfl ?_
  refine iL X150 hx (hb hby d_jdk_68m10_21) (q := 22) rfl rfl ?_
  refine cI X150 hx (hb hby d_jdk_68m10_22) (q := 23) rfl (z := (2 : Int32)) rfl ?_
  refine aL X150 hx (hb hby d_jdk_68m10_23) (q := 24) rfl rfl rfl ?_
  refine g_getF X150 hx hZ0 hown0 (host := "") (Or.inl (wd46 hw)) Via.refl Qc e150 (hb hby d_jdk_68m10_24) (q := 27) rfl ?_
  intro T151 X151 e151
  refine g_ishl X151 hx (hb hby d_jdk_68m10_27) (q := 28) rfl (z := (2 : Int32)) (by decide) ?_
  refine g_iadd X151 hx (hb hby d_jdk_68m10_28) (q := 29) rfl (z := (18 : Int32)) (by decide) ?_
  refine g_st X151 hx hZ0 hown0 (wd238 hw) (wd239 hw) (wd240 hw) (wd241 hw) (by decide) e151 (Con.back (W := 0) (rm_nl16 l Z a0 hw hl zC SC PC hX (fn - (16 : Int32)) h0 O0 (by rcases hfn with rfl | rfl | rfl <;> decide)) hZ0 (wd241 hw) (wd240 hw) (by decide) (by decide)) (by rw [hml]; rfl) (lenOf pd9 rfl) rfl (Nat.le_of_eq rfl) (hb hby d_jdk_68m10_29) (q := 32) rfl (by decide) (by decide) ?_
  intro v152 T152 L152 X152 Q152
  obtain ⟨rfl, Nq152, e152⟩ := Q152
  have N152 := Fr.app N0 Nq152
  show Go _ _ _ _ (T152.setTop (mkF m 32 #[.val (.ref a1), .val (.int fn), .val (iv 16), .val (.int fn), .val (.int (fn - (16 : Int32))), .unset] [(iv 34)]))
  refine sIw X152 hx (hb hby d_jdk_68m10_32) (q := 34) rfl (Ls' := #[.val (.ref a1), .val (.int fn), .val (iv 16), .val (.int fn), .val (.int (fn - (16 : Int32))), .val (iv 34)]) rfl ?_
  refine iLw X152 hx (hb hby d_jdk_68m10_34) (q := 36) rfl rfl ?_
  refine g_ldcI X152 hx (a1 := #[]) hZ0 hown0 (wd247 hw) (hb hby d_jdk_68m10_36) (q := 38) rfl ?_
  refine icY X152 hx (hb hby d_jdk_68m10_38) (q := 51) (by decide) (by decide) (by decide) ?_
  refine iLw X152 hx (hb hby d_jdk_68m10_51) (q := 53) rfl rfl ?_
  refine aL X152 hx (hb hby d_jdk_68m10_53) (q := 54) rfl rfl rfl ?_
  refine g_getF X152 hx hZ0 hown0 (host := "") (Or.inl (wd46 hw)) Via.refl Qc e152 (hb hby d_jdk_68m10_54) (q := 57) rfl ?_
  intro T153 X153 e153
  refine g_ishr X153 hx (hb hby d_jdk_68m10_57) (q := 58) rfl (z := (34 : Int32)) (by decide) ?_
  refine endP X153 hlk (fun h => by rw [hret] at h; cases h) (lastI X153 hx hret (hb hby d_jdk_68m10_58)) ?_ (by decide) (by decide)
  rw [e153]
  exact ⟨rfl, N152, rfl⟩
theorem d_jdk_68m9_17 : decode jdk_68_method_9_code 17 = .ok (.aload_n 0, 1) := by decide +kernel
theorem d_jdk_68m9_18 : decode jdk_68_method_9_code 18 = .ok (.aload_n 0, 1) := by decide +kernel
theorem d_jdk_68m9_19 : decode jdk_68_method_9_code 19 = .ok (.getfield 15, 3) := by decide +kernel
theorem d_jdk_68m9_22 : decode jdk_68_method_9_code 22 = .ok (.aload_n 0, 1) := by decide +kernel
theorem d_jdk_68m9_23 : decode jdk_68_method_9_code 23 = .ok (.iload_n 1, 1) := by decide +kernel
theorem d_jdk_68m9_24 : decode jdk_68_method_9_code 24 = .ok (.invokevirtual 104, 3) := by decide +kernel
theorem wd237 {a0 : Array Value} {Z : State} (hw : HW a0 Z) : ((Jvm.Cond.code ({ cls := "java/lang/AbstractStringBuilder", name := "newCapacity", desc := "(I)I" } : Jvm.MethodName) jdk_68_method_10_code (6 : Nat) (Option.some Jvm.ClassFile.FieldType.int)) : Jvm.Cond).before a0 Z = true := hw _ (List.mem_of_getElem? (i := 237) rfl)
theorem pd10 : parseMethodDescriptor "(I)I" = some ⟨[.int], some .int⟩ := by decide +kernel
theorem wd233 {a0 : Array Value} {Z : State} (hw : HW a0 Z) : ((Jvm.Cond.methodLink "java/lang/AbstractStringBuilder" (104 : Nat) ({ cls := "java/lang/AbstractStringBuilder", name := "newCapacity", desc := "(I)I" } : Jvm.MethodName)) : Jvm.Cond).before a0 Z = true := hw _ (List.mem_of_getElem? (i := 233) rfl)
theorem wd234 {a0 : Array Value} {Z : State} (hw : HW a0 Z) : ((Jvm.Cond.instanceMethod ({ cls := "java/lang/AbstractStringBuilder", name := "newCapacity", desc := "(I)I" } : Jvm.MethodName)) : Jvm.Cond).before a0 Z = true := hw _ (List.mem_of_getElem? (i := 234) rfl)
theorem wd236 {a0 : Array Value} {Z : State} (hw : HW a0 Z) : ((Jvm.Cond.selects "java/lang/StringBuilder" ({ cls := "java/lang/AbstractStringBuilder", name := "newCapacity", desc := "(I)I" } : Jvm.MethodName) ({ cls := "java/lang/AbstractStringBuilder", name := "newCapacity", desc := "(I)I" } : Jvm.MethodName)) : Jvm.Cond).before a0 Z = true := hw _ (List.mem_of_getElem? (i := 236) rfl)
theorem wd235 {a0 : Array Value} {Z : State} (hw : HW a0 Z) : ((Jvm.Cond.privateMethod ({ cls := "java/lang/AbstractStringBuilder", name := "newCapacity", desc := "(I)I" } : Jvm.MethodName)) : Jvm.Cond).before a0 Z = true := hw _ (List.mem_of_getElem? (i := 235) rfl)
theorem d_jdk_68m9_27 : decode jdk_68_method_9_code 27 = .ok (.aload_n 0, 1) := by decide +kernel
theorem d_jdk_68m9_28 : decode jdk_68_method_9_code 28 = .ok (.getfield 22, 3) := by decide +kernel
theorem d_jdk_68m9_31 : decode jdk_68_method_9_code 31 = .ok (.ishl, 1) := by decide +kernel
theorem d_jdk_68m9_32 : decode jdk_68_method_9_code 32 = .ok (.invokestatic 108, 3) := by decide +kernel
theorem wd250 {a0 : Array Value} {Z : State} (hw : HW a0 Z) : ((Jvm.Cond.code ({ cls := "java/util/Arrays", name := "copyOf", desc := "([BI)[B" } : Jvm.MethodName) jdk_65_method_121_code (3 : Nat) (Option.some (Jvm.ClassFile.FieldType.array Jvm.ClassFile.FieldType.byte))) : Jvm.Cond).before a0 Z = true := hw _ (List.mem_of_getElem? (i := 250) rfl)
theorem wd145 {a0 : Array Value} {Z : State} (hw : HW a0 Z) : ((Jvm.Cond.initialized "java/util/Arrays") : Jvm.Cond).before a0 Z = true := hw _ (List.mem_of_getElem? (i := 145) rfl)
theorem pd11 : parseMethodDescriptor "([BI)[B" = some ⟨[(.array .byte), .int], some (.array .byte)⟩ := by decide +kernel
theorem wd248 {a0 : Array Value} {Z : State} (hw : HW a0 Z) : ((Jvm.Cond.methodLink "java/lang/AbstractStringBuilder" (108 : Nat) ({ cls := "java/util/Arrays", name := "copyOf", desc := "([BI)[B" } : Jvm.MethodName)) : Jvm.Cond).before a0 Z = true := hw _ (List.mem_of_getElem? (i := 248) rfl)
theorem wd249 {a0 : Array Value} {Z : State} (hw : HW a0 Z) : ((Jvm.Cond.static ({ cls := "java/util/Arrays", name := "copyOf", desc := "([BI)[B" } : Jvm.MethodName)) : Jvm.Cond).before a0 Z = true := hw _ (List.mem_of_getElem? (i := 249) rfl)
theorem d_jdk_68m9_35 : decode jdk_68_method_9_code 35 = .ok (.putfield 15, 3) := by decide +kernel
def Q_ens16 (Z : State) (zC : Int32) (a1 : Addr) (vv : Addr) (kv : ClassId) (vd : List Value) (c0 : Int32) (fn : Int32) (h0 : Heap) (v : Option Value) (h : Heap) (L : List Loc) : Prop := ∃ (c : Addr), ∃ (kc : ClassId), v = none ∧ Fr Z.heap.size L ∧ Keep h0 h [a1] ∧ h0.size ≤ c ∧ Exa Z h a1 sT2 ∧ Fld Z h a1 sT0 "coder" "B" (iv 0) ∧ Fld Z h a1 sT0 "count" "I" (.int c0) ∧ Fld Z h a1 sT0 "value" "[B" (.ref c) ∧ Arv Z h c kc .byte (34 : Int32) (ins (List.replicate 34 (iv 0)) (sub vd 0 16 (.int 0)) 0 16) (.int 0) ∧ Exa Z h c "[B" ∧ ((ins (List.replicate 34 (iv 0)) (sub vd 0 16 (.int 0)) 0 16).length = 34)
theorem rm_ens16 (l : Launch) (Z : State) (a0 : Array Value) (hw : HW a0 Z) (hl : l.stackTraces = true) (zC : Int32) (SC : tSC Z zC) (PC : ¬ zC = (0 : Int32)) (hX : ExW a0 Z) (a1 : Addr) (vv : Addr) (kv : ClassId) (vd : List Value) (c0 : Int32) (fn : Int32) (h0 : Heap) (O0 : Old Z Z.heap.size h0) (Qe : Exa Z h0 a1 sT2) (Qc : Fld Z h0 a1 sT0 "coder" "B" (iv 0)) (Qn : Fld Z h0 a1 sT0 "count" "I" (.int c0)) (Qv : Fld Z h0 a1 sT0 "value" "[B" (.ref vv)) (Qa : Arv Z h0 vv kv .byte (16 : Int32) vd (.int 0)) (Ql : (vd.length = 16)) (Qz : Z.heap.size ≤ a1) (Qy : Z.heap.size ≤ vv) (hfn : (fn = (17 : Int32) ∨ fn = (18 : Int32) ∨ fn = (19 : Int32))) :
    Con l Z (⟨sT0, "ensureCapacityInternal", "(I)V"⟩ : MethodName) jdk_68_method_9_code 3 none ({ frames := 3, cells := 1, slots := 34, locals := 48 } : Room) #[(.ref a1), (.int fn)] h0 (Q_ens16 Z zC a1 vv kv vd c0 fn h0) := by
  refine Con.intro (plainFor_of_name pn1) ?_
  intro p e s m below meth c T0 X0 hx hby hml hown0 hnm hret hlk hZ0 e0
  have N0 := Fr.nil Z.heap.size
  refine castGo (g' := mkF m 0 #[.val (.ref a1), .val (.int fn), .unset] []) (by first | rfl | (simp [entryFrame, mkF, argsToLocals, Value.category]; done)) ?_
  show Go _ _ _ _ (T0.setTop (mkF m 0 #[.val (.ref a1), .val (.int fn), .unset] []))
  refine aL X0 hx (hb hby d_jdk_68m9_0) (q := 1) rfl rfl rfl ?_
  refine g_getF X0 hx hZ0 hown0 (host := "") (Or.inl (wd44 hw)) Via.refl Qv e0 (hb hby d_jdk_68m9_1) (q := 4) rfl ?_
  intro T154 X154 e154
  refine g_len X154 hx hZ0 Qa e154 (hb hby d_jdk_68m9_4) (q := 5) rfl ?_
  refine aL X154 hx (hb hby d_jdk_68m9_5) (q := 6) rfl rfl rfl ?_
  refine g_getF X154 hx hZ0 hown0 (host := "") (Or.inl (wd46 hw)) Via.refl Qc e154 (hb hby d_jdk_68m9_6) (q := 9) rfl ?_
  intro T155 X155 e155
  refine g_ishr X155 hx (hb hby d_jdk_68m9_9) (q := 10) rfl (z := (16 : Int32)) (by decide) ?_
  refine sI X155 hx (hb hby d_jdk_68m9_10) (q := 11) rfl (Ls' := #[.val (.ref a1), .val (.int fn), .val (iv 16)]) rfl ?_
  refine iL X155 hx (hb hby d_jdk_68m9_11) (q := 12) rfl rfl ?_
  refine iL X155 hx (hb hby d_jdk_68m9_12) (q := 13) rfl rfl ?_
  refine g_isub X155 hx (hb hby d_jdk_68m9_13) (q := 14) rfl rfl ?_
  refine ifN X155 hx (hb hby d_jdk_68m9_14) (q := 17) rfl (by rcases hfn with rfl | rfl | rfl <;> decide) ?_
  refine aL X155 hx (hb hby d_jdk_68m9_17) (q := 18) rfl rfl rfl ?_
  refine aL X155 hx (hb hby d_jdk_68m9_18) (q := 19) rfl rfl rfl ?_
  refine g_getF X155 hx hZ0 hown0 (host := "") (Or.inl (wd44 hw)) Via.refl Qv e155 (hb hby d_jdk_68m9_19) (q := 22) rfl ?_
  intro T156 X156 e156
  refine aL X156 hx (hb hby d_jdk_68m9_22) (q := 23) rfl rfl rfl ?_
  refine iL X156 hx (hb hby d_jdk_68m9_23) (q := 24) rfl rfl ?_
  refine g_pvC X156 hx hZ0 hown0 (wd233 hw) (wd234 hw) (wd236 hw) (wd235 hw) (wd237 hw) (by decide) Qe e156 (Con.back (W := 2) (rm_nc16 l Z a0 hw hl zC SC PC hX a1 vv kv vd fn h0 O0 Qe Qc Qv Qa hfn) hZ0 (wd237 hw) (wd40 hw) (by decide) (by decide)) (by rw [hml]; rfl) (lenOf pd10 rfl) rfl (Nat.le_of_eq rfl) (hb hby d_jdk_68m9_24) (q := 27) rfl (by decide) (by decide) ?_
  intro v157 T157 L157 X157 Q157
  obtain ⟨rfl, Nq157, e157⟩ := Q157
  have N157 := Fr.app N0 Nq157
  show Go _ _ _ _ (T157.setTop (mkF m 27 #[.val (.ref a1), .val (.int fn), .val (iv 16)] [(iv 34), (.ref vv), (.ref a1)]))
  refine aL X157 hx (hb hby d_jdk_68m9_27) (q := 28) rfl rfl rfl ?_
  refine g_getF X157 hx hZ0 hown0 (host := "") (Or.inl (wd46 hw)) Via.refl Qc e157 (hb hby d_jdk_68m9_28) (q := 31) rfl ?_
  intro T158 X158 e158
  refine g_ishl X158 hx (hb hby d_jdk_68m9_31) (q := 32) rfl (z := (34 : Int32)) (by decide) ?_
  refine g_st X158 hx hZ0 hown0 (wd248 hw) (wd249 hw) (wd145 hw) (wd250 hw) (by decide) e158 (Con.back (W := 1) (rm_cpb16_34 l Z a0 hw hl zC SC PC hX vv kv vd h0 O0 Qa Ql) hZ0 (wd250 hw) (wd145 hw) (by decide) (by decide)) (by rw [hml]; rfl) (lenOf pd11 rfl) rfl (Nat.le_of_eq rfl) (hb hby d_jdk_68m9_32) (q := 35) rfl (by decide) (by decide) ?_
  intro v159 T159 L159 X159 Q159
  obtain ⟨c_159, kc_159, rfl, Nq159, K159q, q159_0, q159_1, q159_2, q159_3⟩ := Q159
  have N159 := Fr.app N157 Nq159
  show Go _ _ _ _ (T159.setTop (mkF m 35 #[.val (.ref a1), .val (.int fn), .val (iv 16)] [(.ref c_159), (.ref a1)]))
  have f160 := Qv.keep K159q nin0
  have f161 := Qe.keep K159q
  refine g_putF X159 hx hZ0 hown0 (host := "") (Or.inl (wd44 hw)) Via.refl f160 f161 (Or.inl (wd45 hw)) (wd31 hw) (ty := (.array .byte)) (by decide) rfl rfl rfl (hb hby d_jdk_68m9_35) (q := 38) rfl ?_
  intro T162 h162 X162 e162 W162
  have N162 := Fr.snoc X162 N159 Qz
  have Fw162 : Fld Z h162 a1 sT0 "value" "[B" (.ref c_159) := f160.same W162
  have K163 : Keep h0 T159.heap [a1] := (Keep.refl h0 [a1]).trans K159q all0
  have K164 : Keep h0 h162 [a1] := K163.wr W162 (Or.inl (by simp))
  have gh165 : h0.size ≤ c_159 := Nat.le_trans (Nat.le_refl _) q159_0
  have f166 := f161.wr W162
  have f167 := Qc.keep K159q nin0
  have f168 := f167.other W162 (Or.inr (slot_ne (Or.inl (wd47 hw)) (Or.inl (wd45 hw)) (by decide) (t := .byte) (t' := (.array .byte)) (by decide) (by decide)))
  have f169 := Qn.keep K159q nin0
  have f170 := f169.other W162 (Or.inr (slot_ne (Or.inl (wd71 hw)) (Or.inl (wd45 hw)) (by decide) (t := .int) (t' := (.array .byte)) (by decide) (by decide)))
  have ne171 : c_159 ≠ a1 := (Nat.ne_of_gt (Nat.lt_of_lt_of_le (Nat.lt_of_lt_of_le Qe.lt (Nat.le_refl _)) q159_0))
  have f172 := q159_1.other W162 ne171
  have f173 := q159_2.wr W162
  refine endP X162 hlk (fun _ => rfl) (lastV X162 hx hret (hb hby d_jdk_68m9_38)) ?_ (by decide) (by decide)
  rw [e162]
  exact ⟨c_159, kc_159, rfl, N162, K164, gh165, f166, f168, f170, Fw162, f172, f173, q159_3⟩
def Q_gbG (Z : State) (zC : Int32) (a2 : Addr) (t : Addr) (kt : ClassId) (us : List Value) (vv : Addr) (kv : ClassId) (vd : List Value) (fn : Int32) (h0 : Heap) (v : Option Value) (h : Heap) (L : List Loc) : Prop := v = none ∧ Fr Z.heap.size L ∧ Keep h0 h [vv] ∧ Arv Z h vv kv .byte (34 : Int32) (ins vd (sub us 0 (Int32.toNatClampNeg fn) (.int 0)) 15 (Int32.toNatClampNeg fn)) (.int 0) ∧ ((ins vd (sub us 0 (Int32.toNatClampNeg fn) (.int 0)) 15 (Int32.toNatClampNeg fn)).length = 34)
theorem rm_gbG (l : Launch) (Z : State) (a0 : Array Value) (hw : HW a0 Z) (hl : l.stackTraces = true) (zC : Int32) (SC : tSC Z zC) (PC : ¬ zC = (0 : Int32)) (hX : ExW a0 Z) (a2 : Addr) (t : Addr) (kt : ClassId) (us : List Value) (vv : Addr) (kv : ClassId) (vd : List Value) (fn : Int32) (h0 : Heap) (O0 : Old Z Z.heap.size h0) (Pe : Exa Z h0 a2 sT1) (Pc : Fld Z h0 a2 sT1 "coder" "B" (iv 0)) (Pv : Fld Z h0 a2 sT1 "value" "[B" (.ref t)) (Pa : Arv Z h0 t kt .byte fn us (.int 0)) (Pl : (us.length = (Int32.toNatClampNeg fn))) (Wa : Arv Z h0 vv kv .byte (34 : Int32) vd (.int 0)) (Wl : (vd.length = 34)) (Wy : Z.heap.size ≤ vv) (hfn : (fn = (2 : Int32) ∨ fn = (3 : Int32) ∨ fn = (4 : Int32))) :
    Con l Z (⟨sT1, "getBytes", "([BIB)V"⟩ : MethodName) jdk_42_method_147_code 4 none ({ frames := 1, cells := 0, slots := 0, locals := 31 } : Room) #[(.ref a2), (.ref vv), (iv 15), (iv 0)] h0 (Q_gbG Z zC a2 t kt us vv kv vd fn h0) := by
  refine Con.intro (plainFor_of_name pn0) ?_
  intro p e s m below meth c T0 X0 hx hby hml hown0 hnm hret hlk hZ0 e0
  have N0 := Fr.nil Z.heap.size
  refine castGo (g' := mkF m 0 #[.val (.ref a2), .val (.ref vv), .val (iv 15), .val (iv 0)] []) (by first | rfl | (simp [entryFrame, mkF, argsToLocals, Value.category]; done)) ?_
  show Go _ _ _ _ (T0.setTop (mkF m 0 #[.val (.ref a2), .val (.ref vv), .val (iv 15), .val (iv 0)] []))
  refine aL X0 hx (hb hby d_jdk_42m147_0) (q := 1) rfl rfl rfl ?_
  refine g_vi X0 hx hZ0 hown0 (wd64 hw) (wd65 hw) (notFace_of_selects (args := #[]) (mvT hZ0 (wd67 hw))) (wd67 hw) (wd66 hw) (by decide) Pe e0 (Con.back (W := 0) (rm_coder0 l Z a0 hw hl zC SC PC hX a2 h0 O0 Pc) hZ0 (wd68 hw) (wd3 hw) (by decide) (by decide)) (by rw [hml]; rfl) (lenOf pd1 rfl) rfl (Nat.le_of_eq rfl) (hb hby d_jdk_42m147_1) (q := 4) rfl (by decide) (by decide) ?_
  intro v174 T174 L174 X174 Q174
  obtain ⟨rfl, Nq174, e174⟩ := Q174
  have N174 := Fr.app N0 Nq174
  show Go _ _ _ _ (T174.setTop (mkF m 4 #[.val (.ref a2), .val (.ref vv), .val (iv 15), .val (iv 0)] [(iv 0)]))
  refine iL X174 hx (hb hby d_jdk_42m147_4) (q := 5) rfl rfl ?_
  refine icN X174 hx (hb hby d_jdk_42m147_5) (q := 8) rfl (by decide) ?_
  refine aL X174 hx (hb hby d_jdk_42m147_8) (q := 9) rfl rfl rfl ?_
  refine g_getF X174 hx hZ0 hown0 (host := "") (Or.inl (wd21 hw)) Via.refl Pv e174 (hb hby d_jdk_42m147_9) (q := 12) rfl ?_
  intro T175 X175 e175
  refine cI X175 hx (hb hby d_jdk_42m147_12) (q := 13) rfl (z := (0 : Int32)) rfl ?_
  refine aL X175 hx (hb hby d_jdk_42m147_13) (q := 14) rfl rfl rfl ?_
  refine iL X175 hx (hb hby d_jdk_42m147_14) (q := 15) rfl rfl ?_
  refine iL X175 hx (hb hby d_jdk_42m147_15) (q := 16) rfl rfl ?_
  refine g_ishl X175 hx (hb hby d_jdk_42m147_16) (q := 17) rfl (z := (15 : Int32)) (by decide) ?_
  refine aL X175 hx (hb hby d_jdk_42m147_17) (q := 18) rfl rfl rfl ?_
  refine g_getF X175 hx hZ0 hown0 (host := "") (Or.inl (wd21 hw)) Via.refl Pv e175 (hb hby d_jdk_42m147_18) (q := 21) rfl ?_
  intro T176 X176 e176
  refine g_len X176 hx hZ0 Pa e176 (hb hby d_jdk_42m147_21) (q := 22) rfl ?_
  refine g_cp X176 hx hZ0 hown0 (wd93 hw) (wd96 hw) (wd94 hw) (wd95 hw) (us := (sub us 0 (Int32.toNatClampNeg fn) (.int 0))) Pa Wa (Or.inl ⟨rfl, rfl⟩) (by decide) (by decide) (by rcases hfn with rfl | rfl | rfl <;> decide) (by rcases hfn with rfl | rfl | rfl <;> decide) (by rcases hfn with rfl | rfl | rfl <;> decide) rfl (by rw [Wl]; exact (show 15 + (Int32.toNatClampNeg fn) ≤ 34 from (by rcases hfn with rfl | rfl | rfl <;> decide))) N174 Wy (by rw [hml]; rfl) (by decide) (W := 0) (Nat.le_of_eq rfl) (by decide) e176 (hb hby d_jdk_42m147_22) (q := 25) rfl ?_
  intro T177 h177 L177 X177 e177 N177 K177q V177
  have Va177 : Arv Z h177 vv kv .byte (34 : Int32) (ins vd (sub us 0 (Int32.toNatClampNeg fn) (.int 0)) 15 (Int32.toNatClampNeg fn)) (.int 0) := V177
  have Ln177 : (ins vd (sub us 0 (Int32.toNatClampNeg fn) (.int 0)) 15 (Int32.toNatClampNeg fn)).length = 34 := (ins_len sub_len (by rw [Wl]; exact (show 15 + (Int32.toNatClampNeg fn) ≤ 34 from (by rcases hfn with rfl | rfl | rfl <;> decide)))).trans Wl
  refine g_goto X177 hx (hb hby d_jdk_42m147_25) (q := 43) (by decide) (by decide) ?_
  have K178 : Keep h0 h177 [vv] := (Keep.refl h0 [vv]).trans K177q (allS (Or.inl (by simp)) all0)
  refine endP X177 hlk (fun _ => rfl) (lastV X177 hx hret (hb hby d_jdk_42m147_43)) ?_ (by decide) (by decide)
  rw [e177]
  exact ⟨rfl, N177, K178, Va177, Ln177⟩
def Q_psaG (Z : State) (zC : Int32) (a1 : Addr) (a2 : Addr) (t : Addr) (kt : ClassId) (us : List Value) (vv : Addr) (kv : ClassId) (vd : List Value) (fn : Int32) (h0 : Heap) (v : Option Value) (h : Heap) (L : List Loc) : Prop := v = none ∧ Fr Z.heap.size L ∧ Keep h0 h [vv] ∧ Arv Z h vv kv .byte (34 : Int32) (ins vd (sub us 0 (Int32.toNatClampNeg fn) (.int 0)) 15 (Int32.toNatClampNeg fn)) (.int 0) ∧ ((ins vd (sub us 0 (Int32.toNatClampNeg fn) (.int 0)) 15 (Int32.toNatClampNeg fn)).length = 34)
theorem rm_psaG (l : Launch) (Z : State) (a0 : Array Value) (hw : HW a0 Z) (hl : l.stackTraces = true) (zC : Int32) (SC : tSC Z zC) (PC : ¬ zC = (0 : Int32)) (hX : ExW a0 Z) (a1 : Addr) (a2 : Addr) (t : Addr) (kt : ClassId) (us : List Value) (vv : Addr) (kv : ClassId) (vd : List Value) (fn : Int32) (h0 : Heap) (O0 : Old Z Z.heap.size h0) (Pe : Exa Z h0 a2 sT1) (Pc : Fld Z h0 a2 sT1 "coder" "B" (iv 0)) (Pv : Fld Z h0 a2 sT1 "value" "[B" (.ref t)) (Pa : Arv Z h0 t kt .byte fn us (.int 0)) (Pl : (us.length = (Int32.toNatClampNeg fn))) (We : Exa Z h0 a1 sT2) (Wc : Fld Z h0 a1 sT0 "coder" "B" (iv 0)) (Wv : Fld Z h0 a1 sT0 "value" "[B" (.ref vv)) (Wa : Arv Z h0 vv kv .byte (34 : Int32) vd (.int 0)) (Wl : (vd.length = 34)) (Wy : Z.heap.size ≤ vv) (hfn : (fn = (2 : Int32) ∨ fn = (3 : Int32) ∨ fn = (4 : Int32))) :
    Con l Z (⟨sT0, "putStringAt", "(ILjava/lang/String;)V"⟩ : MethodName) jdk_68_method_73_code 3 none ({ frames := 2, cells := 0, slots := 0, locals := 46 } : Room) #[(.ref a1), (iv 15), (.ref a2)] h0 (Q_psaG Z zC a1 a2 t kt us vv kv vd fn h0) := by
  refine Con.intro (plainFor_of_name pn1) ?_
  intro p e s m below meth c T0 X0 hx hby hml hown0 hnm hret hlk hZ0 e0
  have N0 := Fr.nil Z.heap.size
  refine castGo (g' := mkF m 0 #[.val (.ref a1), .val (iv 15), .val (.ref a2)] []) (by first | rfl | (simp [entryFrame, mkF, argsToLocals, Value.category]; done)) ?_
  show Go _ _ _ _ (T0.setTop (mkF m 0 #[.val (.ref a1), .val (iv 15), .val (.ref a2)] []))
  refine aL X0 hx (hb hby d_jdk_68m73_0) (q := 1) rfl rfl rfl ?_
  refine aL X0 hx (hb hby d_jdk_68m73_1) (q := 2) rfl rfl rfl ?_
  refine g_pvC X0 hx hZ0 hown0 (wd82 hw) (wd83 hw) (wd85 hw) (wd84 hw) (wd86 hw) (by decide) We e0 (Con.back (W := 0) (rm_infl l Z a0 hw hl zC SC PC hX a1 a2 h0 O0 Wc Pe Pc) hZ0 (wd86 hw) (wd40 hw) (by decide) (by decide)) (by rw [hml]; rfl) (lenOf pd3 rfl) rfl (Nat.le_of_eq rfl) (hb hby d_jdk_68m73_2) (q := 5) rfl (by decide) (by decide) ?_
  intro v179 T179 L179 X179 Q179
  obtain ⟨rfl, Nq179, e179⟩ := Q179
  have N179 := Fr.app N0 Nq179
  show Go _ _ _ _ (T179.setTop (mkF m 5 #[.val (.ref a1), .val (iv 15), .val (.ref a2)] []))
  refine aL X179 hx (hb hby d_jdk_68m73_5) (q := 6) rfl rfl rfl ?_
  refine aL X179 hx (hb hby d_jdk_68m73_6) (q := 7) rfl rfl rfl ?_
  refine g_getF X179 hx hZ0 hown0 (host := "") (Or.inl (wd44 hw)) Via.refl Wv e179 (hb hby d_jdk_68m73_7) (q := 10) rfl ?_
  intro T180 X180 e180
  refine iL X180 hx (hb hby d_jdk_68m73_10) (q := 11) rfl rfl ?_
  refine aL X180 hx (hb hby d_jdk_68m73_11) (q := 12) rfl rfl rfl ?_
  refine g_getF X180 hx hZ0 hown0 (host := "") (Or.inl (wd46 hw)) Via.refl Wc e180 (hb hby d_jdk_68m73_12) (q := 15) rfl ?_
  intro T181 X181 e181
  refine g_vi X181 hx hZ0 hown0 (wd88 hw) (wd89 hw) (notFace_of_selects (args := #[]) (mvT hZ0 (wd91 hw))) (wd91 hw) (wd90 hw) (by decide) Pe e181 (Con.back (W := 0) (rm_gbG l Z a0 hw hl zC SC PC hX a2 t kt us vv kv vd fn h0 O0 Pe Pc Pv Pa Pl Wa Wl Wy hfn) hZ0 (wd92 hw) (wd3 hw) (by decide) (by decide)) (by rw [hml]; rfl) (lenOf pd4 rfl) rfl (Nat.le_of_eq rfl) (hb hby d_jdk_68m73_15) (q := 18) rfl (by decide) (by decide) ?_
  intro v182 T182 L182 X182 Q182
  obtain ⟨rfl, Nq182, K182q, q182_0, q182_1⟩ := Q182
  have N182 := Fr.app N179 Nq182
  show Go _ _ _ _ (T182.setTop (mkF m 18 #[.val (.ref a1), .val (iv 15), .val (.ref a2)] []))
  have K183 : Keep h0 T182.heap [vv] := (Keep.refl h0 [vv]).trans K182q (allS (Or.inl (by simp)) all0)
  refine endP X182 hlk (fun _ => rfl) (lastV X182 hx hret (hb hby d_jdk_68m73_18)) ?_ (by decide) (by decide)
  exact ⟨rfl, N182, K183, q182_0, q182_1⟩
def Q_aapG (Z : State) (zC : Int32) (a1 : Addr) (vv : Addr) (kv : ClassId) (vd : List Value) (a2 : Addr) (t : Addr) (kt : ClassId) (us : List Value) (fn : Int32) (h0 : Heap) (v : Option Value) (h : Heap) (L : List Loc) : Prop := ∃ (c : Addr), ∃ (kc : ClassId), v = some (.ref a1) ∧ Fr Z.heap.size L ∧ Keep h0 h [a1] ∧ Exa Z h a1 sT2 ∧ Fld Z h a1 sT0 "coder" "B" (iv 0) ∧ Fld Z h a1 sT0 "count" "I" (.int ((15 : Int32) + fn)) ∧ Fld Z h a1 sT0 "value" "[B" (.ref c) ∧ Arv Z h c kc .byte (34 : Int32) (ins (ins (List.replicate 34 (iv 0)) (sub vd 0 16 (.int 0)) 0 16) (sub us 0 (Int32.toNatClampNeg fn) (.int 0)) 15 (Int32.toNatClampNeg fn)) (.int 0) ∧ ((ins (ins (List.replicate 34 (iv 0)) (sub vd 0 16 (.int 0)) 0 16) (sub us 0 (Int32.toNatClampNeg fn) (.int 0)) 15 (Int32.toNatClampNeg fn)).length = 34) ∧ h0.size ≤ c ∧ Exa Z h c "[B"
theorem rm_aapG (l : Launch) (Z : State) (a0 : Array Value) (hw : HW a0 Z) (hl : l.stackTraces = true) (zC : Int32) (SC : tSC Z zC) (PC : ¬ zC = (0 : Int32)) (hX : ExW a0 Z) (a1 : Addr) (vv : Addr) (kv : ClassId) (vd : List Value) (a2 : Addr) (t : Addr) (kt : ClassId) (us : List Value) (fn : Int32) (h0 : Heap) (O0 : Old Z Z.heap.size h0) (Qe : Exa Z h0 a1 sT2) (Qc : Fld Z h0 a1 sT0 "coder" "B" (iv 0)) (Qn : Fld Z h0 a1 sT0 "count" "I" (iv 15)) (Qv : Fld Z h0 a1 sT0 "value" "[B" (.ref vv)) (Qa : Arv Z h0 vv kv .byte (16 : Int32) vd (.int 0)) (Ql : (vd.length = 16)) (Qz : Z.heap.size ≤ a1) (Qy : Z.heap.size ≤ vv) (Pe : Exa Z h0 a2 sT1) (Pc : Fld Z h0 a2 sT1 "coder" "B" (iv 0)) (Pv : Fld Z h0 a2 sT1 "value" "[B" (.ref t)) (Pa : Arv Z h0 t kt .byte fn us (.int 0)) (Pl : (us.length = (Int32.toNatClampNeg fn))) (hfn : (fn = (2 : Int32) ∨ fn = (3 : Int32) ∨ fn = (4 : Int32))) :
    Con l Z (⟨sT0, "append", "(Ljava/lang/String;)Ljava/lang/AbstractStringBuilder;"⟩ : MethodName) jdk_68_method_22_code 3 (some (.object sT0)) ({ frames := 4, cells := 1, slots := 34, locals := 62 } : Room) #[(.ref a1), (.ref a2)] h0 (Q_aapG Z zC a1 vv kv vd a2 t kt us fn h0) := by
  refine Con.intro (plainFor_of_name pn1) ?_
  intro p e s m below meth c T0 X0 hx hby hml hown0 hnm hret hlk hZ0 e0
  have N0 := Fr.nil Z.heap.size
  refine castGo (g' := mkF m 0 #[.val (.ref a1), .val (.ref a2), .unset] []) (by first | rfl | (simp [entryFrame, mkF, argsToLocals, Value.category]; done)) ?_
  show Go _ _ _ _ (T0.setTop (mkF m 0 #[.val (.ref a1), .val (.ref a2), .unset] []))
  refine aL X0 hx (hb hby d_jdk_68m22_0) (q := 1) rfl rfl rfl ?_
  refine nnY X0 hx (hb hby d_jdk_68m22_1) (q := 9) (by decide) (by decide) ?_
  refine aL X0 hx (hb hby d_jdk_68m22_9) (q := 10) rfl rfl rfl ?_
  refine g_vi X0 hx hZ0 hown0 (wd59 hw) (wd60 hw) (notFace_of_selects (args := #[]) (mvT hZ0 (wd62 hw))) (wd62 hw) (wd61 hw) (by decide) Pe e0 (Con.back (W := 0) (rm_slen l Z a0 hw hl zC SC PC hX a2 t kt us fn h0 O0 Pe Pc Pv Pa) hZ0 (wd63 hw) (wd3 hw) (by decide) (by decide)) (by rw [hml]; rfl) (lenOf pd5 rfl) rfl (Nat.le_of_eq rfl) (hb hby d_jdk_68m22_10) (q := 13) rfl (by decide) (by decide) ?_
  intro v184 T184 L184 X184 Q184
  obtain ⟨rfl, Nq184, e184⟩ := Q184
  have N184 := Fr.app N0 Nq184
  show Go _ _ _ _ (T184.setTop (mkF m 13 #[.val (.ref a1), .val (.ref a2), .unset] [(.int fn)]))
  refine sI X184 hx (hb hby d_jdk_68m22_13) (q := 14) rfl (Ls' := #[.val (.ref a1), .val (.ref a2), .val (.int fn)]) rfl ?_
  refine aL X184 hx (hb hby d_jdk_68m22_14) (q := 15) rfl rfl rfl ?_
  refine aL X184 hx (hb hby d_jdk_68m22_15) (q := 16) rfl rfl rfl ?_
  refine g_getF X184 hx hZ0 hown0 (host := "") (Or.inl (wd70 hw)) Via.refl Qn e184 (hb hby d_jdk_68m22_16) (q := 19) rfl ?_
  intro T185 X185 e185
  refine iL X185 hx (hb hby d_jdk_68m22_19) (q := 20) rfl rfl ?_
  refine g_iadd X185 hx (hb hby d_jdk_68m22_20) (q := 21) rfl rfl ?_
  refine g_pvC X185 hx hZ0 hown0 (wd72 hw) (wd73 hw) (wd75 hw) (wd74 hw) (wd76 hw) (by decide) Qe e185 (Con.back (W := 0) (rm_ens16 l Z a0 hw hl zC SC PC hX a1 vv kv vd (15 : Int32) ((15 : Int32) + fn) h0 O0 Qe Qc Qn Qv Qa Ql Qz Qy (by rcases hfn with rfl | rfl | rfl <;> decide)) hZ0 (wd76 hw) (wd40 hw) (by decide) (by decide)) (by rw [hml]; rfl) (lenOf pd2 rfl) rfl (Nat.le_of_eq rfl) (hb hby d_jdk_68m22_21) (q := 24) rfl (by decide) (by decide) ?_
  intro v186 T186 L186 X186 Q186
  obtain ⟨c_186, kc_186, rfl, Nq186, K186q, q186_0, q186_1, q186_2, q186_3, q186_4, q186_5, q186_6, q186_7⟩ := Q186
  have N186 := Fr.app N184 Nq186
  show Go _ _ _ _ (T186.setTop (mkF m 24 #[.val (.ref a1), .val (.ref a2), .val (.int fn)] []))
  refine aL X186 hx (hb hby d_jdk_68m22_24) (q := 25) rfl rfl rfl ?_
  refine aL X186 hx (hb hby d_jdk_68m22_25) (q := 26) rfl rfl rfl ?_
  refine g_getF X186 hx hZ0 hown0 (host := "") (Or.inl (wd70 hw)) Via.refl q186_3 rfl (hb hby d_jdk_68m22_26) (q := 29) rfl ?_
  intro T187 X187 e187
  refine aL X187 hx (hb hby d_jdk_68m22_29) (q := 30) rfl rfl rfl ?_
  have f202 := Pe.keep K186q
  have ne203 : a2 ≠ a1 := (ne_exa Pe Qe (by decide))
  have f204 := Pc.keep K186q (ninS ne203 nin0)
  have f205 := Pv.keep K186q (ninS ne203 nin0)
  have ne206 : t ≠ a1 := (Ne.symm (Exa.neArv Qe Pa (wd31 hw)))
  have f207 := Pa.keep K186q (ninS ne206 nin0)
  have gz208 : Z.heap.size ≤ c_186 := Nat.le_trans O0.2.1 q186_0
  have f209 := O0.keep K186q (allS Qz all0)
  refine g_pvC X187 hx hZ0 hown0 (wd77 hw) (wd78 hw) (wd80 hw) (wd79 hw) (wd81 hw) (by decide) q186_1 e187 (Con.back (W := 0) (rm_psaG l Z a0 hw hl zC SC PC hX a1 a2 t kt us c_186 kc_186 (ins (List.replicate 34 (iv 0)) (sub vd 0 16 (.int 0)) 0 16) fn T186.heap f209 f202 f204 f205 f207 Pl q186_1 q186_2 q186_4 q186_5 q186_7 gz208 hfn) hZ0 (wd81 hw) (wd40 hw) (by decide) (by decide)) (by rw [hml]; rfl) (lenOf pd6 rfl) rfl (Nat.le_of_eq rfl) (hb hby d_jdk_68m22_30) (q := 33) rfl (by decide) (by decide) ?_
  intro v201 T201 L201 X201 Q201
  obtain ⟨rfl, Nq201, K201q, q201_0, q201_1⟩ := Q201
  have N201 := Fr.app N186 Nq201
  show Go _ _ _ _ (T201.setTop (mkF m 33 #[.val (.ref a1), .val (.ref a2), .val (.int fn)] []))
  refine aL X201 hx (hb hby d_jdk_68m22_33) (q := 34) rfl rfl rfl ?_
  refine g_dup X201 hx (hb hby d_jdk_68m22_34) (q := 35) rfl rfl ?_
  have ne210 : a1 ≠ c_186 := (Nat.ne_of_lt (Nat.lt_of_lt_of_le (Nat.lt_of_lt_of_le Qe.lt (Nat.le_refl _)) q186_0))
  have f211 := q186_3.keep K201q (ninS ne210 nin0)
  refine g_getF X201 hx hZ0 hown0 (host := "") (Or.inl (wd70 hw)) Via.refl f211 rfl (hb hby d_jdk_68m22_35) (q := 38) rfl ?_
  intro T212 X212 e212
  refine iL X212 hx (hb hby d_jdk_68m22_38) (q := 39) rfl rfl ?_
  refine g_iadd X212 hx (hb hby d_jdk_68m22_39) (q := 40) rfl rfl ?_
  have f213 := q186_1.keep K201q
  refine g_putF X212 hx hZ0 hown0 (host := "") (Or.inl (wd70 hw)) Via.refl f211 f213 (Or.inl (wd71 hw)) (wd31 hw) (ty := .int) (by decide) rfl rfl e212 (hb hby d_jdk_68m22_40) (q := 43) rfl ?_
  intro T214 h214 X214 e214 W214
  have N214 := Fr.snoc X214 N201 Qz
  have Fw214 : Fld Z h214 a1 sT0 "count" "I" (.int ((15 : Int32) + fn)) := f211.same W214
  refine aL X214 hx (hb hby d_jdk_68m22_43) (q := 44) rfl rfl rfl ?_
  have K215 : Keep h0 T186.heap [a1] := (Keep.refl h0 [a1]).trans K186q (allS (Or.inl (by simp)) all0)
  have gh216 : h0.size ≤ c_186 := Nat.le_trans (Nat.le_refl _) q186_0
  have K217 : Keep h0 T201.heap [a1] := K215.trans K201q (allS (Or.inr gh216) all0)
  have K218 : Keep h0 h214 [a1] := K217.wr W214 (Or.inl (by simp))
  have f219 := f213.wr W214
  have f220 := q186_2.keep K201q (ninS ne210 nin0)
  have f221 := f220.other W214 (Or.inr (slot_ne (Or.inl (wd47 hw)) (Or.inl (wd71 hw)) (by decide) (t := .byte) (t' := .int) (by decide) (by decide)))
  have f222 := q186_4.keep K201q (ninS ne210 nin0)
  have f223 := f222.other W214 (Or.inr (slot_ne (Or.inl (wd45 hw)) (Or.inl (wd71 hw)) (by decide) (t := (.array .byte)) (t' := .int) (by decide) (by decide)))
  have ne224 : c_186 ≠ a1 := (Ne.symm ne210)
  have f225 := q201_0.other W214 ne224
  have f226 := q186_6.keep K201q
  have f227 := f226.wr W214
  refine endP X214 hlk (fun h => by rw [hret] at h; cases h) (lastA X214 hx hret rfl rfl rfl (hb hby d_jdk_68m22_44)) ?_ (by decide) (by decide)
  rw [e214]
  exact ⟨c_186, kc_186, rfl, N214, K218, f219, f221, Fw214, f223, f225, q201_1, gh216, f227⟩
def Q_sapG (Z : State) (zC : Int32) (a1 : Addr) (vv : Addr) (kv : ClassId) (vd : List Value) (a2 : Addr) (t : Addr) (kt : ClassId) (us : List Value) (fn : Int32) (h0 : Heap) (v : Option Value) (h : Heap) (L : List Loc) : Prop := ∃ (c : Addr), ∃ (kc : ClassId), v = some (.ref a1) ∧ Fr Z.heap.size L ∧ Keep h0 h [a1] ∧ Exa Z h a1 sT2 ∧ Fld Z h a1 sT0 "coder" "B" (iv 0) ∧ Fld Z h a1 sT0 "count" "I" (.int ((15 : Int32) + fn)) ∧ Fld Z h a1 sT0 "value" "[B" (.ref c) ∧ Arv Z h c kc .byte (34 : Int32) (ins (ins (List.replicate 34 (iv 0)) (sub vd 0 16 (.int 0)) 0 16) (sub us 0 (Int32.toNatClampNeg fn) (.int 0)) 15 (Int32.toNatClampNeg fn)) (.int 0) ∧ ((ins (ins (List.replicate 34 (iv 0)) (sub vd 0 16 (.int 0)) 0 16) (sub us 0 (Int32.toNatClampNeg fn) (.int 0)) 15 (Int32.toNatClampNeg fn)).length = 34) ∧ h0.size ≤ c ∧ Exa Z h c "[B"
theorem rm_sapG (l : Launch) (Z : State) (a0 : Array Value) (hw : HW a0 Z) (hl : l.stackTraces = true) (zC : Int32) (SC : tSC Z zC) (PC : ¬ zC = (0 : Int32)) (hX : ExW a0 Z) (a1 : Addr) (vv : Addr) (kv : ClassId) (vd : List Value) (a2 : Addr) (t : Addr) (kt : ClassId) (us : List Value) (fn : Int32) (h0 : Heap) (O0 : Old Z Z.heap.size h0) (Qe : Exa Z h0 a1 sT2) (Qc : Fld Z h0 a1 sT0 "coder" "B" (iv 0)) (Qn : Fld Z h0 a1 sT0 "count" "I" (iv 15)) (Qv : Fld Z h0 a1 sT0 "value" "[B" (.ref vv)) (Qa : Arv Z h0 vv kv .byte (16 : Int32) vd (.int 0)) (Ql : (vd.length = 16)) (Qz : Z.heap.size ≤ a1) (Qy : Z.heap.size ≤ vv) (Pe : Exa Z h0 a2 sT1) (Pc : Fld Z h0 a2 sT1 "coder" "B" (iv 0)) (Pv : Fld Z h0 a2 sT1 "value" "[B" (.ref t)) (Pa : Arv Z h0 t kt .byte fn us (.int 0)) (Pl : (us.length = (Int32.toNatClampNeg fn))) (hfn : (fn = (2 : Int32) ∨ fn = (3 : Int32) ∨ fn = (4 : Int32))) :
    Con l Z (⟨sT2, "append", "(Ljava/lang/String;)Ljava/lang/StringBuilder;"⟩ : MethodName) jdk_67_method_7_code 2 (some (.object sT2)) ({ frames := 5, cells := 1, slots := 34, locals := 76 } : Room) #[(.ref a1), (.ref a2)] h0 (Q_sapG Z zC a1 vv kv vd a2 t kt us fn h0) := by
  refine Con.intro (plainFor_of_name pn2) ?_
  intro p e s m below meth c T0 X0 hx hby hml hown0 hnm hret hlk hZ0 e0
  have N0 := Fr.nil Z.heap.size
  refine castGo (g' := mkF m 0 #[.val (.ref a1), .val (.ref a2)] []) (by first | rfl | (simp [entryFrame, mkF, argsToLocals, Value.category]; done)) ?_
  show Go _ _ _ _ (T0.setTop (mkF m 0 #[.val (.ref a1), .val (.ref a2)] []))
  refine aL X0 hx (hb hby d_jdk_67m7_0) (q := 1) rfl rfl rfl ?_
  refine aL X0 hx (hb hby d_jdk_67m7_1) (q := 2) rfl rfl rfl ?_
  refine g_su X0 hx hZ0 hown0 (wd54 hw) (same_self (wd55 hw) (wd75 hw) rfl (by decide)) (wd55 hw) (wd56 hw) (wd58 hw) (by decide) Qe e0 (Con.back (W := 0) (rm_aapG l Z a0 hw hl zC SC PC hX a1 vv kv vd a2 t kt us fn h0 O0 Qe Qc Qn Qv Qa Ql Qz Qy Pe Pc Pv Pa Pl hfn) hZ0 (wd58 hw) (wd40 hw) (by decide) (by decide)) (by rw [hml]; rfl) (lenOf pd7 rfl) rfl (Nat.le_of_eq rfl) (hb hby d_jdk_67m7_2) (q := 5) rfl (by decide) (by decide) ?_
  intro v228 T228 L228 X228 Q228
  obtain ⟨c_228, kc_228, rfl, Nq228, K228q, q228_0, q228_1, q228_2, q228_3, q228_4, q228_5, q228_6, q228_7⟩ := Q228
  have N228 := Fr.app N0 Nq228
  show Go _ _ _ _ (T228.setTop (mkF m 5 #[.val (.ref a1), .val (.ref a2)] [(.ref a1)]))
  refine g_pop X228 hx (hb hby d_jdk_67m7_5) (q := 6) rfl rfl ?_
  refine aL X228 hx (hb hby d_jdk_67m7_6) (q := 7) rfl rfl rfl ?_
  have K229 : Keep h0 T228.heap [a1] := (Keep.refl h0 [a1]).trans K228q (allS (Or.inl (by simp)) all0)
  have gh230 : h0.size ≤ c_228 := Nat.le_trans (Nat.le_refl _) q228_6
  refine endP X228 hlk (fun h => by rw [hret] at h; cases h) (lastA X228 hx hret rfl rfl rfl (hb hby d_jdk_67m7_7)) ?_ (by decide) (by decide)
  exact ⟨c_228, kc_228, rfl, N228, K229, q228_0, q228_1, q228_2, q228_3, q228_4, q228_5, gh230, q228_7⟩
def Q_gbG2 (Z : State) (zC : Int32) (a2 : Addr) (t : Addr) (kt : ClassId) (us : List Value) (vv : Addr) (kv : ClassId) (vd : List Value) (h0 : Heap) (v : Option Value) (h : Heap) (L : List Loc) : Prop := v = none ∧ Fr Z.heap.size L ∧ Keep h0 h [vv] ∧ Arv Z h vv kv .byte (34 : Int32) (ins vd (sub us 0 1 (.int 0)) 16 1) (.int 0) ∧ ((ins vd (sub us 0 1 (.int 0)) 16 1).length = 34)
theorem rm_gbG2 (l : Launch) (Z : State) (a0 : Array Value) (hw : HW a0 Z) (hl : l.stackTraces = true) (zC : Int32) (SC : tSC Z zC) (PC : ¬ zC = (0 : Int32)) (hX : ExW a0 Z) (a2 : Addr) (t : Addr) (kt : ClassId) (us : List Value) (vv : Addr) (kv : ClassId) (vd : List Value) (h0 : Heap) (O0 : Old Z Z.heap.size h0) (Pe : Exa Z h0 a2 sT1) (Pc : Fld Z h0 a2 sT1 "coder" "B" (iv 0)) (Pv : Fld Z h0 a2 sT1 "value" "[B" (.ref t)) (Pa : Arv Z h0 t kt .byte (1 : Int32) us (.int 0)) (Pl : (us.length = 1)) (Wa : Arv Z h0 vv kv .byte (34 : Int32) vd (.int 0)) (Wl : (vd.length = 34)) (Wy : Z.heap.size ≤ vv) :
    Con l Z (⟨sT1, "getBytes", "([BIB)V"⟩ : MethodName) jdk_42_method_147_code 4 none ({ frames := 1, cells := 0, slots := 0, locals := 31 } : Room) #[(.ref a2), (.ref vv), (iv 16), (iv 0)] h0 (Q_gbG2 Z zC a2 t kt us vv kv vd h0) := by
  refine Con.intro (plainFor_of_name pn0) ?_
  intro p e s m below meth c T0 X0 hx hby hml hown0 hnm hret hlk hZ0 e0
  have N0 := Fr.nil Z.heap.size
  refine castGo (g' := mkF m 0 #[.val (.ref a2), .val (.ref vv), .val (iv 16), .val (iv 0)] []) (by first | rfl | (simp [entryFrame, mkF, argsToLocals, Value.category]; done)) ?_
  show Go _ _ _ _ (T0.setTop (mkF m 0 #[.val (.ref a2), .val (.ref vv), .val (iv 16), .val (iv 0)] []))
  refine aL X0 hx (hb hby d_jdk_42m147_0) (q := 1) rfl rfl rfl ?_
  refine g_vi X0 hx hZ0 hown0 (wd64 hw) (wd65 hw) (notFace_of_selects (args := #[]) (mvT hZ0 (wd67 hw))) (wd67 hw) (wd66 hw) (by decide) Pe e0 (Con.back (W := 0) (rm_coder0 l Z a0 hw hl zC SC PC hX a2 h0 O0 Pc) hZ0 (wd68 hw) (wd3 hw) (by decide) (by decide)) (by rw [hml]; rfl) (lenOf pd1 rfl) rfl (Nat.le_of_eq rfl) (hb hby d_jdk_42m147_1) (q := 4) rfl (by decide) (by decide) ?_
  intro v231 T231 L231 X231 Q231
  obtain ⟨rfl, Nq231, e231⟩ := Q231
  have N231 := Fr.app N0 Nq231
  show Go _ _ _ _ (T231.setTop (mkF m 4 #[.val (.ref a2), .val (.ref vv), .val (iv 16), .val (iv 0)] [(iv 0)]))
  refine iL X231 hx (hb hby d_jdk_42m147_4) (q := 5) rfl rfl ?_
  refine icN X231 hx (hb hby d_jdk_42m147_5) (q := 8) rfl (by decide) ?_
  refine aL X231 hx (hb hby d_jdk_42m147_8) (q := 9) rfl rfl rfl ?_
  refine g_getF X231 hx hZ0 hown0 (host := "") (Or.inl (wd21 hw)) Via.refl Pv e231 (hb hby d_jdk_42m147_9) (q := 12) rfl ?_
  intro T232 X232 e232
  refine cI X232 hx (hb hby d_jdk_42m147_12) (q := 13) rfl (z := (0 : Int32)) rfl ?_
  refine aL X232 hx (hb hby d_jdk_42m147_13) (q := 14) rfl rfl rfl ?_
  refine iL X232 hx (hb hby d_jdk_42m147_14) (q := 15) rfl rfl ?_
  refine iL X232 hx (hb hby d_jdk_42m147_15) (q := 16) rfl rfl ?_
  refine g_ishl X232 hx (hb hby d_jdk_42m147_16) (q := 17) rfl (z := (16 : Int32)) (by decide) ?_
  refine aL X232 hx (hb hby d_jdk_42m147_17) (q := 18) rfl rfl rfl ?_
  refine g_getF X232 hx hZ0 hown0 (host := "") (Or.inl (wd21 hw)) Via.refl Pv e232 (hb hby d_jdk_42m147_18) (q := 21) rfl ?_
  intro T233 X233 e233
  refine g_len X233 hx hZ0 Pa e233 (hb hby d_jdk_42m147_21) (q := 22) rfl ?_
  refine g_cp X233 hx hZ0 hown0 (wd93 hw) (wd96 hw) (wd94 hw) (wd95 hw) (us := (sub us 0 1 (.int 0))) Pa Wa (Or.inl ⟨rfl, rfl⟩) (by decide) (by decide) (by decide) (by decide) (by decide) rfl (by rw [Wl]; exact (show 16 + 1 ≤ 34 from (by decide))) N231 Wy (by rw [hml]; rfl) (by decide) (W := 0) (Nat.le_of_eq rfl) (by decide) e233 (hb hby d_jdk_42m147_22) (q := 25) rfl ?_
  intro T234 h234 L234 X234 e234 N234 K234q V234
  have Va234 : Arv Z h234 vv kv .byte (34 : Int32) (ins vd (sub us 0 1 (.int 0)) 16 1) (.int 0) := V234
  have Ln234 : (ins vd (sub us 0 1 (.int 0)) 16 1).length = 34 := (ins_len sub_len (by rw [Wl]; exact (show 16 + 1 ≤ 34 from (by decide)))).trans Wl
  refine g_goto X234 hx (hb hby d_jdk_42m147_25) (q := 43) (by decide) (by decide) ?_
  have K235 : Keep h0 h234 [vv] := (Keep.refl h0 [vv]).trans K234q (allS (Or.inl (by simp)) all0)
  refine endP X234 hlk (fun _ => rfl) (lastV X234 hx hret (hb hby d_jdk_42m147_43)) ?_ (by decide) (by decide)
  rw [e234]
  exact ⟨rfl, N234, K235, Va234, Ln234⟩
def Q_psaG2 (Z : State) (zC : Int32) (a1 : Addr) (a2 : Addr) (t : Addr) (kt : ClassId) (us : List Value) (vv : Addr) (kv : ClassId) (vd : List Value) (h0 : Heap) (v : Option Value) (h : Heap) (L : List Loc) : Prop := v = none ∧ Fr Z.heap.size L ∧ Keep h0 h [vv] ∧ Arv Z h vv kv .byte (34 : Int32) (ins vd (sub us 0 1 (.int 0)) 16 1) (.int 0) ∧ ((ins vd (sub us 0 1 (.int 0)) 16 1).length = 34)
theorem rm_psaG2 (l : Launch) (Z : State) (a0 : Array Value) (hw : HW a0 Z) (hl : l.stackTraces = true) (zC : Int32) (SC : tSC Z zC) (PC : ¬ zC = (0 : Int32)) (hX : ExW a0 Z) (a1 : Addr) (a2 : Addr) (t : Addr) (kt : ClassId) (us : List Value) (vv : Addr) (kv : ClassId) (vd : List Value) (h0 : Heap) (O0 : Old Z Z.heap.size h0) (Pe : Exa Z h0 a2 sT1) (Pc : Fld Z h0 a2 sT1 "coder" "B" (iv 0)) (Pv : Fld Z h0 a2 sT1 "value" "[B" (.ref t)) (Pa : Arv Z h0 t kt .byte (1 : Int32) us (.int 0)) (Pl : (us.length = 1)) (We : Exa Z h0 a1 sT2) (Wc : Fld Z h0 a1 sT0 "coder" "B" (iv 0)) (Wv : Fld Z h0 a1 sT0 "value" "[B" (.ref vv)) (Wa : Arv Z h0 vv kv .byte (34 : Int32) vd (.int 0)) (Wl : (vd.length = 34)) (Wy : Z.heap.size ≤ vv) :
    Con l Z (⟨sT0, "putStringAt", "(ILjava/lang/String;)V"⟩ : MethodName) jdk_68_method_73_code 3 none ({ frames := 2, cells := 0, slots := 0, locals := 46 } : Room) #[(.ref a1), (iv 16), (.ref a2)] h0 (Q_psaG2 Z zC a1 a2 t kt us vv kv vd h0) := by
  refine Con.intro (plainFor_of_name pn1) ?_
  intro p e s m below meth c T0 X0 hx hby hml hown0 hnm hret hlk hZ0 e0
  have N0 := Fr.nil Z.heap.size
  refine castGo (g' := mkF m 0 #[.val (.ref a1), .val (iv 16), .val (.ref a2)] []) (by first | rfl | (simp [entryFrame, mkF, argsToLocals, Value.category]; done)) ?_
  show Go _ _ _ _ (T0.setTop (mkF m 0 #[.val (.ref a1), .val (iv 16), .val (.ref a2)] []))
  refine aL X0 hx (hb hby d_jdk_68m73_0) (q := 1) rfl rfl rfl ?_
  refine aL X0 hx (hb hby d_jdk_68m73_1) (q := 2) rfl rfl rfl ?_
  refine g_pvC X0 hx hZ0 hown0 (wd82 hw) (wd83 hw) (wd85 hw) (wd84 hw) (wd86 hw) (by decide) We e0 (Con.back (W := 0) (rm_infl l Z a0 hw hl zC SC PC hX a1 a2 h0 O0 Wc Pe Pc) hZ0 (wd86 hw) (wd40 hw) (by decide) (by decide)) (by rw [hml]; rfl) (lenOf pd3 rfl) rfl (Nat.le_of_eq rfl) (hb hby d_jdk_68m73_2) (q := 5) rfl (by decide) (by decide) ?_
  intro v236 T236 L236 X236 Q236
  obtain ⟨rfl, Nq236, e236⟩ := Q236
  have N236 := Fr.app N0 Nq236
  show Go _ _ _ _ (T236.setTop (mkF m 5 #[.val (.ref a1), .val (iv 16), .val (.ref a2)] []))
  refine aL X236 hx (hb hby d_jdk_68m73_5) (q := 6) rfl rfl rfl ?_
  refine aL X236 hx (hb hby d_jdk_68m73_6) (q := 7) rfl rfl rfl ?_
  refine g_getF X236 hx hZ0 hown0 (host := "") (Or.inl (wd44 hw)) Via.refl Wv e236 (hb hby d_jdk_68m73_7) (q := 10) rfl ?_
  intro T237 X237 e237
  refine iL X237 hx (hb hby d_jdk_68m73_10) (q := 11) rfl rfl ?_
  refine aL X237 hx (hb hby d_jdk_68m73_11) (q := 12) rfl rfl rfl ?_
  refine g_getF X237 hx hZ0 hown0 (host := "") (Or.inl (wd46 hw)) Via.refl Wc e237 (hb hby d_jdk_68m73_12) (q := 15) rfl ?_
  intro T238 X238 e238
  refine g_vi X238 hx hZ0 hown0 (wd88 hw) (wd89 hw) (notFace_of_selects (args := #[]) (mvT hZ0 (wd91 hw))) (wd91 hw) (wd90 hw) (by decide) Pe e238 (Con.back (W := 0) (rm_gbG2 l Z a0 hw hl zC SC PC hX a2 t kt us vv kv vd h0 O0 Pe Pc Pv Pa Pl Wa Wl Wy) hZ0 (wd92 hw) (wd3 hw) (by decide) (by decide)) (by rw [hml]; rfl) (lenOf pd4 rfl) rfl (Nat.le_of_eq rfl) (hb hby d_jdk_68m73_15) (q := 18) rfl (by decide) (by decide) ?_
  intro v239 T239 L239 X239 Q239
  obtain ⟨rfl, Nq239, K239q, q239_0, q239_1⟩ := Q239
  have N239 := Fr.app N236 Nq239
  show Go _ _ _ _ (T239.setTop (mkF m 18 #[.val (.ref a1), .val (iv 16), .val (.ref a2)] []))
  have K240 : Keep h0 T239.heap [vv] := (Keep.refl h0 [vv]).trans K239q (allS (Or.inl (by simp)) all0)
  refine endP X239 hlk (fun _ => rfl) (lastV X239 hx hret (hb hby d_jdk_68m73_18)) ?_ (by decide) (by decide)
  exact ⟨rfl, N239, K240, q239_0, q239_1⟩
def Q_aapG2 (Z : State) (zC : Int32) (a1 : Addr) (vv : Addr) (kv : ClassId) (vd : List Value) (a2 : Addr) (t : Addr) (kt : ClassId) (us : List Value) (h0 : Heap) (v : Option Value) (h : Heap) (L : List Loc) : Prop := ∃ (c : Addr), ∃ (kc : ClassId), v = some (.ref a1) ∧ Fr Z.heap.size L ∧ Keep h0 h [a1] ∧ Exa Z h a1 sT2 ∧ Fld Z h a1 sT0 "coder" "B" (iv 0) ∧ Fld Z h a1 sT0 "count" "I" (iv 17) ∧ Fld Z h a1 sT0 "value" "[B" (.ref c) ∧ Arv Z h c kc .byte (34 : Int32) (ins (ins (List.replicate 34 (iv 0)) (sub vd 0 16 (.int 0)) 0 16) (sub us 0 1 (.int 0)) 16 1) (.int 0) ∧ ((ins (ins (List.replicate 34 (iv 0)) (sub vd 0 16 (.int 0)) 0 16) (sub us 0 1 (.int 0)) 16 1).length = 34) ∧ h0.size ≤ c ∧ Exa Z h c "[B"
theorem rm_aapG2 (l : Launch) (Z : State) (a0 : Array Value) (hw : HW a0 Z) (hl : l.stackTraces = true) (zC : Int32) (SC : tSC Z zC) (PC : ¬ zC = (0 : Int32)) (hX : ExW a0 Z) (a1 : Addr) (vv : Addr) (kv : ClassId) (vd : List Value) (a2 : Addr) (t : Addr) (kt : ClassId) (us : List Value) (h0 : Heap) (O0 : Old Z Z.heap.size h0) (Qe : Exa Z h0 a1 sT2) (Qc : Fld Z h0 a1 sT0 "coder" "B" (iv 0)) (Qn : Fld Z h0 a1 sT0 "count" "I" (iv 16)) (Qv : Fld Z h0 a1 sT0 "value" "[B" (.ref vv)) (Qa : Arv Z h0 vv kv .byte (16 : Int32) vd (.int 0)) (Ql : (vd.length = 16)) (Qz : Z.heap.size ≤ a1) (Qy : Z.heap.size ≤ vv) (Pe : Exa Z h0 a2 sT1) (Pc : Fld Z h0 a2 sT1 "coder" "B" (iv 0)) (Pv : Fld Z h0 a2 sT1 "value" "[B" (.ref t)) (Pa : Arv Z h0 t kt .byte (1 : Int32) us (.int 0)) (Pl : (us.length = 1)) :
    Con l Z (⟨sT0, "append", "(Ljava/lang/String;)Ljava/lang/AbstractStringBuilder;"⟩ : MethodName) jdk_68_method_22_code 3 (some (.object sT0)) ({ frames := 4, cells := 1, slots := 34, locals := 62 } : Room) #[(.ref a1), (.ref a2)] h0 (Q_aapG2 Z zC a1 vv kv vd a2 t kt us h0) := by
  refine Con.intro (plainFor_of_name pn1) ?_
  intro p e s m below meth c T0 X0 hx hby hml hown0 hnm hret hlk hZ0 e0
  have N0 := Fr.nil Z.heap.size
  refine castGo (g' := mkF m 0 #[.val (.ref a1), .val (.ref a2), .unset] []) (by first | rfl | (simp [entryFrame, mkF, argsToLocals, Value.category]; done)) ?_
  show Go _ _ _ _ (T0.setTop (mkF m 0 #[.val (.ref a1), .val (.ref a2), .unset] []))
  refine aL X0 hx (hb hby d_jdk_68m22_0) (q := 1) rfl rfl rfl ?_
  refine nnY X0 hx (hb hby d_jdk_68m22_1) (q := 9) (by decide) (by decide) ?_
  refine aL X0 hx (hb hby d_jdk_68m22_9) (q := 10) rfl rfl rfl ?_
  refine g_vi X0 hx hZ0 hown0 (wd59 hw) (wd60 hw) (notFace_of_selects (args := #[]) (mvT hZ0 (wd62 hw))) (wd62 hw) (wd61 hw) (by decide) Pe e0 (Con.back (W := 0) (rm_slen l Z a0 hw hl zC SC PC hX a2 t kt us (1 : Int32) h0 O0 Pe Pc Pv Pa) hZ0 (wd63 hw) (wd3 hw) (by decide) (by decide)) (by rw [hml]; rfl) (lenOf pd5 rfl) rfl (Nat.le_of_eq rfl) (hb hby d_jdk_68m22_10) (q := 13) rfl (by decide) (by decide) ?_
  intro v241 T241 L241 X241 Q241
  obtain ⟨rfl, Nq241, e241⟩ := Q241
  have N241 := Fr.app N0 Nq241
  show Go _ _ _ _ (T241.setTop (mkF m 13 #[.val (.ref a1), .val (.ref a2), .unset] [(iv 1)]))
  refine sI X241 hx (hb hby d_jdk_68m22_13) (q := 14) rfl (Ls' := #[.val (.ref a1), .val (.ref a2), .val (iv 1)]) rfl ?_
  refine aL X241 hx (hb hby d_jdk_68m22_14) (q := 15) rfl rfl rfl ?_
  refine aL X241 hx (hb hby d_jdk_68m22_15) (q := 16) rfl rfl rfl ?_
  refine g_getF X241 hx hZ0 hown0 (host := "") (Or.inl (wd70 hw)) Via.refl Qn e241 (hb hby d_jdk_68m22_16) (q := 19) rfl ?_
  intro T242 X242 e242
  refine iL X242 hx (hb hby d_jdk_68m22_19) (q := 20) rfl rfl ?_
  refine g_iadd X242 hx (hb hby d_jdk_68m22_20) (q := 21) rfl (z := (17 : Int32)) (by decide) ?_
  refine g_pvC X242 hx hZ0 hown0 (wd72 hw) (wd73 hw) (wd75 hw) (wd74 hw) (wd76 hw) (by decide) Qe e242 (Con.back (W := 0) (rm_ens16 l Z a0 hw hl zC SC PC hX a1 vv kv vd (16 : Int32) (17 : Int32) h0 O0 Qe Qc Qn Qv Qa Ql Qz Qy (by decide)) hZ0 (wd76 hw) (wd40 hw) (by decide) (by decide)) (by rw [hml]; rfl) (lenOf pd2 rfl) rfl (Nat.le_of_eq rfl) (hb hby d_jdk_68m22_21) (q := 24) rfl (by decide) (by decide) ?_
  intro v243 T243 L243 X243 Q243
  obtain ⟨c_243, kc_243, rfl, Nq243, K243q, q243_0, q243_1, q243_2, q243_3, q243_4, q243_5, q243_6, q243_7⟩ := Q243
  have N243 := Fr.app N241 Nq243
  show Go _ _ _ _ (T243.setTop (mkF m 24 #[.val (.ref a1), .val (.ref a2), .val (iv 1)] []))
  refine aL X243 hx (hb hby d_jdk_68m22_24) (q := 25) rfl rfl rfl ?_
  refine aL X243 hx (hb hby d_jdk_68m22_25) (q := 26) rfl rfl rfl ?_
  refine g_getF X243 hx hZ0 hown0 (host := "") (Or.inl (wd70 hw)) Via.refl q243_3 rfl (hb hby d_jdk_68m22_26) (q := 29) rfl ?_
  intro T244 X244 e244
  refine aL X244 hx (hb hby d_jdk_68m22_29) (q := 30) rfl rfl rfl ?_
  have f253 := Pe.keep K243q
  have ne254 : a2 ≠ a1 := (ne_exa Pe Qe (by decide))
  have f255 := Pc.keep K243q (ninS ne254 nin0)
  have f256 := Pv.keep K243q (ninS ne254 nin0)
  have ne257 : t ≠ a1 := (Ne.symm (Exa.neArv Qe Pa (wd31 hw)))
  have f258 := Pa.keep K243q (ninS ne257 nin0)
  have gz259 : Z.heap.size ≤ c_243 := Nat.le_trans O0.2.1 q243_0
  have f260 := O0.keep K243q (allS Qz all0)
  refine g_pvC X244 hx hZ0 hown0 (wd77 hw) (wd78 hw) (wd80 hw) (wd79 hw) (wd81 hw) (by decide) q243_1 e244 (Con.back (W := 0) (rm_psaG2 l Z a0 hw hl zC SC PC hX a1 a2 t kt us c_243 kc_243 (ins (List.replicate 34 (iv 0)) (sub vd 0 16 (.int 0)) 0 16) T243.heap f260 f253 f255 f256 f258 Pl q243_1 q243_2 q243_4 q243_5 q243_7 gz259) hZ0 (wd81 hw) (wd40 hw) (by decide) (by decide)) (by rw [hml]; rfl) (lenOf pd6 rfl) rfl (Nat.le_of_eq rfl) (hb hby d_jdk_68m22_30) (q := 33) rfl (by decide) (by decide) ?_
  intro v252 T252 L252 X252 Q252
  obtain ⟨rfl, Nq252, K252q, q252_0, q252_1⟩ := Q252
  have N252 := Fr.app N243 Nq252
  show Go _ _ _ _ (T252.setTop (mkF m 33 #[.val (.ref a1), .val (.ref a2), .val (iv 1)] []))
  refine aL X252 hx (hb hby d_jdk_68m22_33) (q := 34) rfl rfl rfl ?_
  refine g_dup X252 hx (hb hby d_jdk_68m22_34) (q := 35) rfl rfl ?_
  have ne261 : a1 ≠ c_243 := (Nat.ne_of_lt (Nat.lt_of_lt_of_le (Nat.lt_of_lt_of_le Qe.lt (Nat.le_refl _)) q243_0))
  have f262 := q243_3.keep K252q (ninS ne261 nin0)
  refine g_getF X252 hx hZ0 hown0 (host := "") (Or.inl (wd70 hw)) Via.refl f262 rfl (hb hby d_jdk_68m22_35) (q := 38) rfl ?_
  intro T263 X263 e263
  refine iL X263 hx (hb hby d_jdk_68m22_38) (q := 39) rfl rfl ?_
  refine g_iadd X263 hx (hb hby d_jdk_68m22_39) (q := 40) rfl (z := (17 : Int32)) (by decide) ?_
  have f264 := q243_1.keep K252q
  refine g_putF X263 hx hZ0 hown0 (host := "") (Or.inl (wd70 hw)) Via.refl f262 f264 (Or.inl (wd71 hw)) (wd31 hw) (ty := .int) (by decide) rfl rfl e263 (hb hby d_jdk_68m22_40) (q := 43) rfl ?_
  intro T265 h265 X265 e265 W265
  have N265 := Fr.snoc X265 N252 Qz
  have Fw265 : Fld Z h265 a1 sT0 "count" "I" (iv 17) := f262.same W265
  refine aL X265 hx (hb hby d_jdk_68m22_43) (q := 44) rfl rfl rfl ?_
  have K266 : Keep h0 T243.heap [a1] := (Keep.refl h0 [a1]).trans K243q (allS (Or.inl (by simp)) all0)
  have gh267 : h0.size ≤ c_243 := Nat.le_trans (Nat.le_refl _) q243_0
  have K268 : Keep h0 T252.heap [a1] := K266.trans K252q (allS (Or.inr gh267) all0)
  have K269 : Keep h0 h265 [a1] := K268.wr W265 (Or.inl (by simp))
  have f270 := f264.wr W265
  have f271 := q243_2.keep K252q (ninS ne261 nin0)
  have f272 := f271.other W265 (Or.inr (slot_ne (Or.inl (wd47 hw)) (Or.inl (wd71 hw)) (by decide) (t := .byte) (t' := .int) (by decide) (by decide)))
  have f273 := q243_4.keep K252q (ninS ne261 nin0)
  have f274 := f273.other W265 (Or.inr (slot_ne (Or.inl (wd45 hw)) (Or.inl (wd71 hw)) (by decide) (t := (.array .byte)) (t' := .int) (by decide) (by decide)))
  have ne275 : c_243 ≠ a1 := (Ne.symm ne261)
  have f276 := q252_0.other W265 ne275
  have f277 := q243_6.keep K252q
  have f278 := f277.wr W265
  refine endP X265 hlk (fun h => by rw [hret] at h; cases h) (lastA X265 hx hret rfl rfl rfl (hb hby d_jdk_68m22_44)) ?_ (by decide) (by decide)
  rw [e265]
  exact ⟨c_243, kc_243, rfl, N265, K269, f270, f272, Fw265, f274, f276, q252_1, gh267, f278⟩
def Q_sapG2 (Z : State) (zC : Int32) (a1 : Addr) (vv : Addr) (kv : ClassId) (vd : List Value) (a2 : Addr) (t : Addr) (kt : ClassId) (us : List Value) (h0 : Heap) (v : Option Value) (h : Heap) (L : List Loc) : Prop := ∃ (c : Addr), ∃ (kc : ClassId), v = some (.ref a1) ∧ Fr Z.heap.size L ∧ Keep h0 h [a1] ∧ Exa Z h a1 sT2 ∧ Fld Z h a1 sT0 "coder" "B" (iv 0) ∧ Fld Z h a1 sT0 "count" "I" (iv 17) ∧ Fld Z h a1 sT0 "value" "[B" (.ref c) ∧ Arv Z h c kc .byte (34 : Int32) (ins (ins (List.replicate 34 (iv 0)) (sub vd 0 16 (.int 0)) 0 16) (sub us 0 1 (.int 0)) 16 1) (.int 0) ∧ ((ins (ins (List.replicate 34 (iv 0)) (sub vd 0 16 (.int 0)) 0 16) (sub us 0 1 (.int 0)) 16 1).length = 34) ∧ h0.size ≤ c ∧ Exa Z h c "[B"
theorem rm_sapG2 (l : Launch) (Z : State) (a0 : Array Value) (hw : HW a0 Z) (hl : l.stackTraces = true) (zC : Int32) (SC : tSC Z zC) (PC : ¬ zC = (0 : Int32)) (hX : ExW a0 Z) (a1 : Addr) (vv : Addr) (kv : ClassId) (vd : List Value) (a2 : Addr) (t : Addr) (kt : ClassId) (us : List Value) (h0 : Heap) (O0 : Old Z Z.heap.size h0) (Qe : Exa Z h0 a1 sT2) (Qc : Fld Z h0 a1 sT0 "coder" "B" (iv 0)) (Qn : Fld Z h0 a1 sT0 "count" "I" (iv 16)) (Qv : Fld Z h0 a1 sT0 "value" "[B" (.ref vv)) (Qa : Arv Z h0 vv kv .byte (16 : Int32) vd (.int 0)) (Ql : (vd.length = 16)) (Qz : Z.heap.size ≤ a1) (Qy : Z.heap.size ≤ vv) (Pe : Exa Z h0 a2 sT1) (Pc : Fld Z h0 a2 sT1 "coder" "B" (iv 0)) (Pv : Fld Z h0 a2 sT1 "value" "[B" (.ref t)) (Pa : Arv Z h0 t kt .byte (1 : Int32) us (.int 0)) (Pl : (us.length = 1)) :
    Con l Z (⟨sT2, "append", "(Ljava/lang/String;)Ljava/lang/StringBuilder;"⟩ : MethodName) jdk_67_method_7_code 2 (some (.object sT2)) ({ frames := 5, cells := 1, slots := 34, locals := 76 } : Room) #[(.ref a1), (.ref a2)] h0 (Q_sapG2 Z zC a1 vv kv vd a2 t kt us h0) := by
  refine Con.intro (plainFor_of_name pn2) ?_
  intro p e s m below meth c T0 X0 hx hby hml hown0 hnm hret hlk hZ0 e0
  have N0 := Fr.nil Z.heap.size
  refine castGo (g' := mkF m 0 #[.val (.ref a1), .val (.ref a2)] []) (by first | rfl | (simp [entryFrame, mkF, argsToLocals, Value.category]; done)) ?_
  show Go _ _ _ _ (T0.setTop (mkF m 0 #[.val (.ref a1), .val (.ref a2)] []))
  refine aL X0 hx (hb hby d_jdk_67m7_0) (q := 1) rfl rfl rfl ?_
  refine aL X0 hx (hb hby d_jdk_67m7_1) (q := 2) rfl rfl rfl ?_
  refine g_su X0 hx hZ0 hown0 (wd54 hw) (same_self (wd55 hw) (wd75 hw) rfl (by decide)) (wd55 hw) (wd56 hw) (wd58 hw) (by decide) Qe e0 (Con.back (W := 0) (rm_aapG2 l Z a0 hw hl zC SC PC hX a1 vv kv vd a2 t kt us h0 O0 Qe Qc Qn Qv Qa Ql Qz Qy Pe Pc Pv Pa Pl) hZ0 (wd58 hw) (wd40 hw) (by decide) (by decide)) (by rw [hml]; rfl) (lenOf pd7 rfl) rfl (Nat.le_of_eq rfl) (hb hby d_jdk_67m7_2) (q := 5) rfl (by decide) (by decide) ?_
  intro v279 T279 L279 X279 Q279
  obtain ⟨c_279, kc_279, rfl, Nq279, K279q, q279_0, q279_1, q279_2, q279_3, q279_4, q279_5, q279_6, q279_7⟩ := Q279
  have N279 := Fr.app N0 Nq279
  show Go _ _ _ _ (T279.setTop (mkF m 5 #[.val (.ref a1), .val (.ref a2)] [(.ref a1)]))
  refine g_pop X279 hx (hb hby d_jdk_67m7_5) (q := 6) rfl rfl ?_
  refine aL X279 hx (hb hby d_jdk_67m7_6) (q := 7) rfl rfl rfl ?_
  have K280 : Keep h0 T279.heap [a1] := (Keep.refl h0 [a1]).trans K279q (allS (Or.inl (by simp)) all0)
  have gh281 : h0.size ≤ c_279 := Nat.le_trans (Nat.le_refl _) q279_6
  refine endP X279 hlk (fun h => by rw [hret] at h; cases h) (lastA X279 hx hret rfl rfl rfl (hb hby d_jdk_67m7_7)) ?_ (by decide) (by decide)
  exact ⟨c_279, kc_279, rfl, N279, K280, q279_0, q279_1, q279_2, q279_3, q279_4, q279_5, gh281, q279_7⟩
def Q_ensf34 (Z : State) (zC : Int32) (a1 : Addr) (vv : Addr) (kv : ClassId) (vd : List Value) (fn : Int32) (h0 : Heap) (v : Option Value) (h : Heap) (L : List Loc) : Prop := v = none ∧ Fr Z.heap.size L ∧ h = h0
theorem rm_ensf34 (l : Launch) (Z : State) (a0 : Array Value) (hw : HW a0 Z) (hl : l.stackTraces = true) (zC : Int32) (SC : tSC Z zC) (PC : ¬ zC = (0 : Int32)) (hX : ExW a0 Z) (a1 : Addr) (vv : Addr) (kv : ClassId) (vd : List Value) (fn : Int32) (h0 : Heap) (O0 : Old Z Z.heap.size h0) (Qe : Exa Z h0 a1 sT2) (Qc : Fld Z h0 a1 sT0 "coder" "B" (iv 0)) (Qv : Fld Z h0 a1 sT0 "value" "[B" (.ref vv)) (Qa : Arv Z h0 vv kv .byte (34 : Int32) vd (.int 0)) (hfn : (fn = (18 : Int32) ∨ fn = (19 : Int32) ∨ fn = (20 : Int32))) :
    Con l Z (⟨sT0, "ensureCapacityInternal", "(I)V"⟩ : MethodName) jdk_68_method_9_code 3 none ({ frames := 0, cells := 0, slots := 0, locals := 0 } : Room) #[(.ref a1), (.int fn)] h0 (Q_ensf34 Z zC a1 vv kv vd fn h0) := by
  refine Con.intro (plainFor_of_name pn1) ?_
  intro p e s m below meth c T0 X0 hx hby hml hown0 hnm hret hlk hZ0 e0
  have N0 := Fr.nil Z.heap.size
  refine castGo (g' := mkF m 0 #[.val (.ref a1), .val (.int fn), .unset] []) (by first | rfl | (simp [entryFrame, mkF, argsToLocals, Value.category]; done)) ?_
  show Go _ _ _ _ (T0.setTop (mkF m 0 #[.val (.ref a1), .val (.int fn), .unset] []))
  refine aL X0 hx (hb hby d_jdk_68m9_0) (q := 1) rfl rfl rfl ?_
  refine g_getF X0 hx hZ0 hown0 (host := "") (Or.inl (wd44 hw)) Via.refl Qv e0 (hb hby d_jdk_68m9_1) (q := 4) rfl ?_
  intro T282 X282 e282
  refine g_len X282 hx hZ0 Qa e282 (hb hby d_jdk_68m9_4) (q := 5) rfl ?_
  refine aL X282 hx (hb hby d_jdk_68m9_5) (q := 6) rfl rfl rfl ?_
  refine g_getF X282 hx hZ0 hown0 (host := "") (Or.inl (wd46 hw)) Via.refl Qc e282 (hb hby d_jdk_68m9_6) (q := 9) rfl ?_
  intro T283 X283 e283
  refine g_ishr X283 hx (hb hby d_jdk_68m9_9) (q := 10) rfl (z := (34 : Int32)) (by decide) ?_
  refine sI X283 hx (hb hby d_jdk_68m9_10) (q := 11) rfl (Ls' := #[.val (.ref a1), .val (.int fn), .val (iv 34)]) rfl ?_
  refine iL X283 hx (hb hby d_jdk_68m9_11) (q := 12) rfl rfl ?_
  refine iL X283 hx (hb hby d_jdk_68m9_12) (q := 13) rfl rfl ?_
  refine g_isub X283 hx (hb hby d_jdk_68m9_13) (q := 14) rfl rfl ?_
  refine ifY X283 hx (hb hby d_jdk_68m9_14) (q := 38) (by decide) (by decide) (by rcases hfn with rfl | rfl | rfl <;> decide) ?_
  refine endP X283 hlk (fun _ => rfl) (lastV X283 hx hret (hb hby d_jdk_68m9_38)) ?_ (by decide) (by decide)
  rw [e283]
  exact ⟨rfl, N0, rfl⟩
def Q_gbH (Z : State) (zC : Int32) (a2 : Addr) (t : Addr) (kt : ClassId) (us : List Value) (vv : Addr) (kv : ClassId) (vd : List Value) (fn : Int32) (h0 : Heap) (v : Option Value) (h : Heap) (L : List Loc) : Prop := v = none ∧ Fr Z.heap.size L ∧ Keep h0 h [vv] ∧ Arv Z h vv kv .byte (34 : Int32) (ins vd (sub us 0 1 (.int 0)) (Int32.toNatClampNeg fn) 1) (.int 0) ∧ ((ins vd (sub us 0 1 (.int 0)) (Int32.toNatClampNeg fn) 1).length = 34)
theorem rm_gbH (l : Launch) (Z : State) (a0 : Array Value) (hw : HW a0 Z) (hl : l.stackTraces = true) (zC : Int32) (SC : tSC Z zC) (PC : ¬ zC = (0 : Int32)) (hX : ExW a0 Z) (a2 : Addr) (t : Addr) (kt : ClassId) (us : List Value) (vv : Addr) (kv : ClassId) (vd : List Value) (fn : Int32) (h0 : Heap) (O0 : Old Z Z.heap.size h0) (Pe : Exa Z h0 a2 sT1) (Pc : Fld Z h0 a2 sT1 "coder" "B" (iv 0)) (Pv : Fld Z h0 a2 sT1 "value" "[B" (.ref t)) (Pa : Arv Z h0 t kt .byte (1 : Int32) us (.int 0)) (Pl : (us.length = 1)) (Wa : Arv Z h0 vv kv .byte (34 : Int32) vd (.int 0)) (Wl : (vd.length = 34)) (Wy : Z.heap.size ≤ vv) (hfn : (fn = (17 : Int32) ∨ fn = (18 : Int32) ∨ fn = (19 : Int32))) :
    Con l Z (⟨sT1, "getBytes", "([BIB)V"⟩ : MethodName) jdk_42_method_147_code 4 none ({ frames := 1, cells := 0, slots := 0, locals := 31 } : Room) #[(.ref a2), (.ref vv), (.int fn), (iv 0)] h0 (Q_gbH Z zC a2 t kt us vv kv vd fn h0) := by
  refine Con.intro (plainFor_of_name pn0) ?_
  intro p e s m below meth c T0 X0 hx hby hml hown0 hnm hret hlk hZ0 e0
  have N0 := Fr.nil Z.heap.size
  refine castGo (g' := mkF m 0 #[.val (.ref a2), .val (.ref vv), .val (.int fn), .val (iv 0)] []) (by first | rfl | (simp [entryFrame, mkF, argsToLocals, Value.category]; done)) ?_
  show Go _ _ _ _ (T0.setTop (mkF m 0 #[.val (.ref a2), .val (.ref vv), .val (.int fn), .val (iv 0)] []))
  refine aL X0 hx (hb hby d_jdk_42m147_0) (q := 1) rfl rfl rfl ?_
  refine g_vi X0 hx hZ0 hown0 (wd64 hw) (wd65 hw) (notFace_of_selects (args := #[]) (mvT hZ0 (wd67 hw))) (wd67 hw) (wd66 hw) (by decide) Pe e0 (Con.back (W := 0) (rm_coder0 l Z a0 hw hl zC SC PC hX a2 h0 O0 Pc) hZ0 (wd68 hw) (wd3 hw) (by decide) (by decide)) (by rw [hml]; rfl) (lenOf pd1 rfl) rfl (Nat.le_of_eq rfl) (hb hby d_jdk_42m147_1) (q := 4) rfl (by decide) (by decide) ?_
  intro v284 T284 L284 X284 Q284
  obtain ⟨rfl, Nq284, e284⟩ := Q284
  have N284 := Fr.app N0 Nq284
  show Go _ _ _ _ (T284.setTop (mkF m 4 #[.val (.ref a2), .val (.ref vv), .val (.int fn), .val (iv 0)] [(iv 0)]))
  refine iL X284 hx (hb hby d_jdk_42m147_4) (q := 5) rfl rfl ?_
  refine icN X284 hx (hb hby d_jdk_42m147_5) (q := 8) rfl (by decide) ?_
  refine aL X284 hx (hb hby d_jdk_42m147_8) (q := 9) rfl rfl rfl ?_
  refine g_getF X284 hx hZ0 hown0 (host := "") (Or.inl (wd21 hw)) Via.refl Pv e284 (hb hby d_jdk_42m147_9) (q := 12) rfl ?_
  intro T285 X285 e285
  refine cI X285 hx (hb hby d_jdk_42m147_12) (q := 13) rfl (z := (0 : Int32)) rfl ?_
  refine aL X285 hx (hb hby d_jdk_42m147_13) (q := 14) rfl rfl rfl ?_
  refine iL X285 hx (hb hby d_jdk_42m147_14) (q := 15) rfl rfl ?_
  refine iL X285 hx (hb hby d_jdk_42m147_15) (q := 16) rfl rfl ?_
  refine g_ishl X285 hx (hb hby d_jdk_42m147_16) (q := 17) rfl (z := fn) (shl_zero _) ?_
  refine aL X285 hx (hb hby d_jdk_42m147_17) (q := 18) rfl rfl rfl ?_
  refine g_getF X285 hx hZ0 hown0 (host := "") (Or.inl (wd21 hw)) Via.refl Pv e285 (hb hby d_jdk_42m147_18) (q := 21) rfl ?_
  intro T286 X286 e286
  refine g_len X286 hx hZ0 Pa e286 (hb hby d_jdk_42m147_21) (q := 22) rfl ?_
  refine g_cp X286 hx hZ0 hown0 (wd93 hw) (wd96 hw) (wd94 hw) (wd95 hw) (us := (sub us 0 1 (.int 0))) Pa Wa (Or.inl ⟨rfl, rfl⟩) (by decide) (by rcases hfn with rfl | rfl | rfl <;> decide) (by decide) (by decide) (by rcases hfn with rfl | rfl | rfl <;> decide) rfl (by rw [Wl]; exact (show (Int32.toNatClampNeg fn) + 1 ≤ 34 from (by rcases hfn with rfl | rfl | rfl <;> decide))) N284 Wy (by rw [hml]; rfl) (by decide) (W := 0) (Nat.le_of_eq rfl) (by decide) e286 (hb hby d_jdk_42m147_22) (q := 25) rfl ?_
  intro T287 h287 L287 X287 e287 N287 K287q V287
  have Va287 : Arv Z h287 vv kv .byte (34 : Int32) (ins vd (sub us 0 1 (.int 0)) (Int32.toNatClampNeg fn) 1) (.int 0) := V287
  have Ln287 : (ins vd (sub us 0 1 (.int 0)) (Int32.toNatClampNeg fn) 1).length = 34 := (ins_len sub_len (by rw [Wl]; exact (show (Int32.toNatClampNeg fn) + 1 ≤ 34 from (by rcases hfn with rfl | rfl | rfl <;> decide)))).trans Wl
  refine g_goto X287 hx (hb hby d_jdk_42m147_25) (q := 43) (by decide) (by decide) ?_
  have K288 : Keep h0 h287 [vv] := (Keep.refl h0 [vv]).trans K287q (allS (Or.inl (by simp)) all0)
  refine endP X287 hlk (fun _ => rfl) (lastV X287 hx hret (hb hby d_jdk_42m147_43)) ?_ (by decide) (by decide)
  rw [e287]
  exact ⟨rfl, N287, K288, Va287, Ln287⟩
def Q_psaH (Z : State) (zC : Int32) (a1 : Addr) (a2 : Addr) (t : Addr) (kt : ClassId) (us : List Value) (vv : Addr) (kv : ClassId) (vd : List Value) (fn : Int32) (h0 : Heap) (v : Option Value) (h : Heap) (L : List Loc) : Prop := v = none ∧ Fr Z.heap.size L ∧ Keep h0 h [vv] ∧ Arv Z h vv kv .byte (34 : Int32) (ins vd (sub us 0 1 (.int 0)) (Int32.toNatClampNeg fn) 1) (.int 0) ∧ ((ins vd (sub us 0 1 (.int 0)) (Int32.toNatClampNeg fn) 1).length = 34)
theorem rm_psaH (l : Launch) (Z : State) (a0 : Array Value) (hw : HW a0 Z) (hl : l.stackTraces = true) (zC : Int32) (SC : tSC Z zC) (PC : ¬ zC = (0 : Int32)) (hX : ExW a0 Z) (a1 : Addr) (a2 : Addr) (t : Addr) (kt : ClassId) (us : List Value) (vv : Addr) (kv : ClassId) (vd : List Value) (fn : Int32) (h0 : Heap) (O0 : Old Z Z.heap.size h0) (Pe : Exa Z h0 a2 sT1) (Pc : Fld Z h0 a2 sT1 "coder" "B" (iv 0)) (Pv : Fld Z h0 a2 sT1 "value" "[B" (.ref t)) (Pa : Arv Z h0 t kt .byte (1 : Int32) us (.int 0)) (Pl : (us.length = 1)) (We : Exa Z h0 a1 sT2) (Wc : Fld Z h0 a1 sT0 "coder" "B" (iv 0)) (Wv : Fld Z h0 a1 sT0 "value" "[B" (.ref vv)) (Wa : Arv Z h0 vv kv .byte (34 : Int32) vd (.int 0)) (Wl : (vd.length = 34)) (Wy : Z.heap.size ≤ vv) (hfn : (fn = (17 : Int32) ∨ fn = (18 : Int32) ∨ fn = (19 : Int32))) :
    Con l Z (⟨sT0, "putStringAt", "(ILjava/lang/String;)V"⟩ : MethodName) jdk_68_method_73_code 3 none ({ frames := 2, cells := 0, slots := 0, locals := 46 } : Room) #[(.ref a1), (.int fn), (.ref a2)] h0 (Q_psaH Z zC a1 a2 t kt us vv kv vd fn h0) := by
  refine Con.intro (plainFor_of_name pn1) ?_
  intro p e s m below meth c T0 X0 hx hby hml hown0 hnm hret hlk hZ0 e0
  have N0 := Fr.nil Z.heap.size
  refine castGo (g' := mkF m 0 #[.val (.ref a1), .val (.int fn), .val (.ref a2)] []) (by first | rfl | (simp [entryFrame, mkF, argsToLocals, Value.category]; done)) ?_
  show Go _ _ _ _ (T0.setTop (mkF m 0 #[.val (.ref a1), .val (.int fn), .val (.ref a2)] []))
  refine aL X0 hx (hb hby d_jdk_68m73_0) (q := 1) rfl rfl rfl ?_
  refine aL X0 hx (hb hby d_jdk_68m73_1) (q := 2) rfl rfl rfl ?_
  refine g_pvC X0 hx hZ0 hown0 (wd82 hw) (wd83 hw) (wd85 hw) (wd84 hw) (wd86 hw) (by decide) We e0 (Con.back (W := 0) (rm_infl l Z a0 hw hl zC SC PC hX a1 a2 h0 O0 Wc Pe Pc) hZ0 (wd86 hw) (wd40 hw) (by decide) (by decide)) (by rw [hml]; rfl) (lenOf pd3 rfl) rfl (Nat.le_of_eq rfl) (hb hby d_jdk_68m73_2) (q := 5) rfl (by decide) (by decide) ?_
  intro v289 T289 L289 X289 Q289
  obtain ⟨rfl, Nq289, e289⟩ := Q289
  have N289 := Fr.app N0 Nq289
  show Go _ _ _ _ (T289.setTop (mkF m 5 #[.val (.ref a1), .val (.int fn), .val (.ref a2)] []))
  refine aL X289 hx (hb hby d_jdk_68m73_5) (q := 6) rfl rfl rfl ?_
  refine aL X289 hx (hb hby d_jdk_68m73_6) (q := 7) rfl rfl rfl ?_
  refine g_getF X289 hx hZ0 hown0 (host := "") (Or.inl (wd44 hw)) Via.refl Wv e289 (hb hby d_jdk_68m73_7) (q := 10) rfl ?_
  intro T290 X290 e290
  refine iL X290 hx (hb hby d_jdk_68m73_10) (q := 11) rfl rfl ?_
  refine aL X290 hx (hb hby d_jdk_68m73_11) (q := 12) rfl rfl rfl ?_
  refine g_getF X290 hx hZ0 hown0 (host := "") (Or.inl (wd46 hw)) Via.refl Wc e290 (hb hby d_jdk_68m73_12) (q := 15) rfl ?_
  intro T291 X291 e291
  refine g_vi X291 hx hZ0 hown0 (wd88 hw) (wd89 hw) (notFace_of_selects (args := #[]) (mvT hZ0 (wd91 hw))) (wd91 hw) (wd90 hw) (by decide) Pe e291 (Con.back (W := 0) (rm_gbH l Z a0 hw hl zC SC PC hX a2 t kt us vv kv vd fn h0 O0 Pe Pc Pv Pa Pl Wa Wl Wy hfn) hZ0 (wd92 hw) (wd3 hw) (by decide) (by decide)) (by rw [hml]; rfl) (lenOf pd4 rfl) rfl (Nat.le_of_eq rfl) (hb hby d_jdk_68m73_15) (q := 18) rfl (by decide) (by decide) ?_
  intro v292 T292 L292 X292 Q292
  obtain ⟨rfl, Nq292, K292q, q292_0, q292_1⟩ := Q292
  have N292 := Fr.app N289 Nq292
  show Go _ _ _ _ (T292.setTop (mkF m 18 #[.val (.ref a1), .val (.int fn), .val (.ref a2)] []))
  have K293 : Keep h0 T292.heap [vv] := (Keep.refl h0 [vv]).trans K292q (allS (Or.inl (by simp)) all0)
  refine endP X292 hlk (fun _ => rfl) (lastV X292 hx hret (hb hby d_jdk_68m73_18)) ?_ (by decide) (by decide)
  exact ⟨rfl, N292, K293, q292_0, q292_1⟩
def Q_aapH (Z : State) (zC : Int32) (a1 : Addr) (vv : Addr) (kv : ClassId) (vd : List Value) (a2 : Addr) (t : Addr) (kt : ClassId) (us : List Value) (fn : Int32) (h0 : Heap) (v : Option Value) (h : Heap) (L : List Loc) : Prop := v = some (.ref a1) ∧ Fr Z.heap.size L ∧ Keep h0 h [a1, vv] ∧ Exa Z h a1 sT2 ∧ Fld Z h a1 sT0 "coder" "B" (iv 0) ∧ Fld Z h a1 sT0 "count" "I" (.int (fn + (1 : Int32))) ∧ Fld Z h a1 sT0 "value" "[B" (.ref vv) ∧ Arv Z h vv kv .byte (34 : Int32) (ins vd (sub us 0 1 (.int 0)) (Int32.toNatClampNeg fn) 1) (.int 0) ∧ ((ins vd (sub us 0 1 (.int 0)) (Int32.toNatClampNeg fn) 1).length = 34)
theorem rm_aapH (l : Launch) (Z : State) (a0 : Array Value) (hw : HW a0 Z) (hl : l.stackTraces = true) (zC : Int32) (SC : tSC Z zC) (PC : ¬ zC = (0 : Int32)) (hX : ExW a0 Z) (a1 : Addr) (vv : Addr) (kv : ClassId) (vd : List Value) (a2 : Addr) (t : Addr) (kt : ClassId) (us : List Value) (fn : Int32) (h0 : Heap) (O0 : Old Z Z.heap.size h0) (Qe : Exa Z h0 a1 sT2) (Qc : Fld Z h0 a1 sT0 "coder" "B" (iv 0)) (Qn : Fld Z h0 a1 sT0 "count" "I" (.int fn)) (Qv : Fld Z h0 a1 sT0 "value" "[B" (.ref vv)) (Qa : Arv Z h0 vv kv .byte (34 : Int32) vd (.int 0)) (Ql : (vd.length = 34)) (Qz : Z.heap.size ≤ a1) (Qy : Z.heap.size ≤ vv) (Pe : Exa Z h0 a2 sT1) (Pc : Fld Z h0 a2 sT1 "coder" "B" (iv 0)) (Pv : Fld Z h0 a2 sT1 "value" "[B" (.ref t)) (Pa : Arv Z h0 t kt .byte (1 : Int32) us (.int 0)) (Pl : (us.length = 1)) (hfn : (fn = (17 : Int32) ∨ fn = (18 : Int32) ∨ fn = (19 : Int32))) :
    Con l Z (⟨sT0, "append", "(Ljava/lang/String;)Ljava/lang/AbstractStringBuilder;"⟩ : MethodName) jdk_68_method_22_code 3 (some (.object sT0)) ({ frames := 3, cells := 0, slots := 0, locals := 60 } : Room) #[(.ref a1), (.ref a2)] h0 (Q_aapH Z zC a1 vv kv vd a2 t kt us fn h0) := by
  refine Con.intro (plainFor_of_name pn1) ?_
  intro p e s m below meth c T0 X0 hx hby hml hown0 hnm hret hlk hZ0 e0
  have N0 := Fr.nil Z.heap.size
  refine castGo (g' := mkF m 0 #[.val (.ref a1), .val (.ref a2), .unset] []) (by first | rfl | (simp [entryFrame, mkF, argsToLocals, Value.category]; done)) ?_
  show Go _ _ _ _ (T0.setTop (mkF m 0 #[.val (.ref a1), .val (.ref a2), .unset] []))
  refine aL X0 hx (hb hby d_jdk_68m22_0) (q := 1) rfl rfl rfl ?_
  refine nnY X0 hx (hb hby d_jdk_68m22_1) (q := 9) (by decide) (by decide) ?_
  refine aL X0 hx (hb hby d_jdk_68m22_9) (q := 10) rfl rfl rfl ?_
  refine g_vi X0 hx hZ0 hown0 (wd59 hw) (wd60 hw) (notFace_of_selects (args := #[]) (mvT hZ0 (wd62 hw))) (wd62 hw) (wd61 hw) (by decide) Pe e0 (Con.back (W := 0) (rm_slen l Z a0 hw hl zC SC PC hX a2 t kt us (1 : Int32) h0 O0 Pe Pc Pv Pa) hZ0 (wd63 hw) (wd3 hw) (by decide) (by decide)) (by rw [hml]; rfl) (lenOf pd5 rfl) rfl (Nat.le_of_eq rfl) (hb hby d_jdk_68m22_10) (q := 13) rfl (by decide) (by decide) ?_
  intro v294 T294 L294 X294 Q294
  obtain ⟨rfl, Nq294, e294⟩ := Q294
  have N294 := Fr.app N0 Nq294
  show Go _ _ _ _ (T294.setTop (mkF m 13 #[.val (.ref a1), .val (.ref a2), .unset] [(iv 1)]))
  refine sI X294 hx (hb hby d_jdk_68m22_13) (q := 14) rfl (Ls' := #[.val (.ref a1), .val (.ref a2), .val (iv 1)]) rfl ?_
  refine aL X294 hx (hb hby d_jdk_68m22_14) (q := 15) rfl rfl rfl ?_
  refine aL X294 hx (hb hby d_jdk_68m22_15) (q := 16) rfl rfl rfl ?_
  refine g_getF X294 hx hZ0 hown0 (host := "") (Or.inl (wd70 hw)) Via.refl Qn e294 (hb hby d_jdk_68m22_16) (q := 19) rfl ?_
  intro T295 X295 e295
  refine iL X295 hx (hb hby d_jdk_68m22_19) (q := 20) rfl rfl ?_
  refine g_iadd X295 hx (hb hby d_jdk_68m22_20) (q := 21) rfl rfl ?_
  refine g_pvC X295 hx hZ0 hown0 (wd72 hw) (wd73 hw) (wd75 hw) (wd74 hw) (wd76 hw) (by decide) Qe e295 (Con.back (W := 0) (rm_ensf34 l Z a0 hw hl zC SC PC hX a1 vv kv vd (fn + (1 : Int32)) h0 O0 Qe Qc Qv Qa (by rcases hfn with rfl | rfl | rfl <;> decide)) hZ0 (wd76 hw) (wd40 hw) (by decide) (by decide)) (by rw [hml]; rfl) (lenOf pd2 rfl) rfl (Nat.le_of_eq rfl) (hb hby d_jdk_68m22_21) (q := 24) rfl (by decide) (by decide) ?_
  intro v296 T296 L296 X296 Q296
  obtain ⟨rfl, Nq296, e296⟩ := Q296
  have N296 := Fr.app N294 Nq296
  show Go _ _ _ _ (T296.setTop (mkF m 24 #[.val (.ref a1), .val (.ref a2), .val (iv 1)] []))
  refine aL X296 hx (hb hby d_jdk_68m22_24) (q := 25) rfl rfl rfl ?_
  refine aL X296 hx (hb hby d_jdk_68m22_25) (q := 26) rfl rfl rfl ?_
  refine g_getF X296 hx hZ0 hown0 (host := "") (Or.inl (wd70 hw)) Via.refl Qn e296 (hb hby d_jdk_68m22_26) (q := 29) rfl ?_
  intro T297 X297 e297
  refine aL X297 hx (hb hby d_jdk_68m22_29) (q := 30) rfl rfl rfl ?_
  refine g_pvC X297 hx hZ0 hown0 (wd77 hw) (wd78 hw) (wd80 hw) (wd79 hw) (wd81 hw) (by decide) Qe e297 (Con.back (W := 0) (rm_psaH l Z a0 hw hl zC SC PC hX a1 a2 t kt us vv kv vd fn h0 O0 Pe Pc Pv Pa Pl Qe Qc Qv Qa Ql Qy hfn) hZ0 (wd81 hw) (wd40 hw) (by decide) (by decide)) (by rw [hml]; rfl) (lenOf pd6 rfl) rfl (Nat.le_of_eq rfl) (hb hby d_jdk_68m22_30) (q := 33) rfl (by decide) (by decide) ?_
  intro v298 T298 L298 X298 Q298
  obtain ⟨rfl, Nq298, K298q, q298_0, q298_1⟩ := Q298
  have N298 := Fr.app N296 Nq298
  show Go _ _ _ _ (T298.setTop (mkF m 33 #[.val (.ref a1), .val (.ref a2), .val (iv 1)] []))
  refine aL X298 hx (hb hby d_jdk_68m22_33) (q := 34) rfl rfl rfl ?_
  refine g_dup X298 hx (hb hby d_jdk_68m22_34) (q := 35) rfl rfl ?_
  have f299 := Qe.keep K298q
  have ne300 : a1 ≠ vv := (Exa.neArv f299 q298_0 (wd31 hw))
  have f301 := Qn.keep K298q (ninS ne300 nin0)
  refine g_getF X298 hx hZ0 hown0 (host := "") (Or.inl (wd70 hw)) Via.refl f301 rfl (hb hby d_jdk_68m22_35) (q := 38) rfl ?_
  intro T302 X302 e302
  refine iL X302 hx (hb hby d_jdk_68m22_38) (q := 39) rfl rfl ?_
  refine g_iadd X302 hx (hb hby d_jdk_68m22_39) (q := 40) rfl rfl ?_
  refine g_putF X302 hx hZ0 hown0 (host := "") (Or.inl (wd70 hw)) Via.refl f301 f299 (Or.inl (wd71 hw)) (wd31 hw) (ty := .int) (by decide) rfl rfl e302 (hb hby d_jdk_68m22_40) (q := 43) rfl ?_
  intro T303 h303 X303 e303 W303
  have N303 := Fr.snoc X303 N298 Qz
  have Fw303 : Fld Z h303 a1 sT0 "count" "I" (.int (fn + (1 : Int32))) := f301.same W303
  refine aL X303 hx (hb hby d_jdk_68m22_43) (q := 44) rfl rfl rfl ?_
  have K304 : Keep h0 T298.heap [a1, vv] := (Keep.refl h0 [a1, vv]).trans K298q (allS (Or.inl (by simp)) all0)
  have K305 : Keep h0 h303 [a1, vv] := K304.wr W303 (Or.inl (by simp))
  have f306 := f299.wr W303
  have f307 := Qc.keep K298q (ninS ne300 nin0)
  have f308 := f307.other W303 (Or.inr (slot_ne (Or.inl (wd47 hw)) (Or.inl (wd71 hw)) (by decide) (t := .byte) (t' := .int) (by decide) (by decide)))
  have f309 := Qv.keep K298q (ninS ne300 nin0)
  have f310 := f309.other W303 (Or.inr (slot_ne (Or.inl (wd45 hw)) (Or.inl (wd71 hw)) (by decide) (t := (.array .byte)) (t' := .int) (by decide) (by decide)))
  have ne311 : vv ≠ a1 := (Ne.symm ne300)
  have f312 := q298_0.other W303 ne311
  refine endP X303 hlk (fun h => by rw [hret] at h; cases h) (lastA X303 hx hret rfl rfl rfl (hb hby d_jdk_68m22_44)) ?_ (by decide) (by decide)
  rw [e303]
  exact ⟨rfl, N303, K305, f306, f308, Fw303, f310, f312, q298_1⟩
def Q_sapH (Z : State) (zC : Int32) (a1 : Addr) (vv : Addr) (kv : ClassId) (vd : List Value) (a2 : Addr) (t : Addr) (kt : ClassId) (us : List Value) (fn : Int32) (h0 : Heap) (v : Option Value) (h : Heap) (L : List Loc) : Prop := v = some (.ref a1) ∧ Fr Z.heap.size L ∧ Keep h0 h [a1, vv] ∧ Exa Z h a1 sT2 ∧ Fld Z h a1 sT0 "coder" "B" (iv 0) ∧ Fld Z h a1 sT0 "count" "I" (.int (fn + (1 : Int32))) ∧ Fld Z h a1 sT0 "value" "[B" (.ref vv) ∧ Arv Z h vv kv .byte (34 : Int32) (ins vd (sub us 0 1 (.int 0)) (Int32.toNatClampNeg fn) 1) (.int 0) ∧ ((ins vd (sub us 0 1 (.int 0)) (Int32.toNatClampNeg fn) 1).length = 34)
theorem rm_sapH (l : Launch) (Z : State) (a0 : Array Value) (hw : HW a0 Z) (hl : l.stackTraces = true) (zC : Int32) (SC : tSC Z zC) (PC : ¬ zC = (0 : Int32)) (hX : ExW a0 Z) (a1 : Addr) (vv : Addr) (kv : ClassId) (vd : List Value) (a2 : Addr) (t : Addr) (kt : ClassId) (us : List Value) (fn : Int32) (h0 : Heap) (O0 : Old Z Z.heap.size h0) (Qe : Exa Z h0 a1 sT2) (Qc : Fld Z h0 a1 sT0 "coder" "B" (iv 0)) (Qn : Fld Z h0 a1 sT0 "count" "I" (.int fn)) (Qv : Fld Z h0 a1 sT0 "value" "[B" (.ref vv)) (Qa : Arv Z h0 vv kv .byte (34 : Int32) vd (.int 0)) (Ql : (vd.length = 34)) (Qz : Z.heap.size ≤ a1) (Qy : Z.heap.size ≤ vv) (Pe : Exa Z h0 a2 sT1) (Pc : Fld Z h0 a2 sT1 "coder" "B" (iv 0)) (Pv : Fld Z h0 a2 sT1 "value" "[B" (.ref t)) (Pa : Arv Z h0 t kt .byte (1 : Int32) us (.int 0)) (Pl : (us.length = 1)) (hfn : (fn = (17 : Int32) ∨ fn = (18 : Int32) ∨ fn = (19 : Int32))) :
    Con l Z (⟨sT2, "append", "(Ljava/lang/String;)Ljava/lang/StringBuilder;"⟩ : MethodName) jdk_67_method_7_code 2 (some (.object sT2)) ({ frames := 4, cells := 0, slots := 0, locals := 74 } : Room) #[(.ref a1), (.ref a2)] h0 (Q_sapH Z zC a1 vv kv vd a2 t kt us fn h0) := by
  refine Con.intro (plainFor_of_name pn2) ?_
  intro p e s m below meth c T0 X0 hx hby hml hown0 hnm hret hlk hZ0 e0
  have N0 := Fr.nil Z.heap.size
  refine castGo (g' := mkF m 0 #[.val (.ref a1), .val (.ref a2)] []) (by first | rfl | (simp [entryFrame, mkF, argsToLocals, Value.category]; done)) ?_
  show Go _ _ _ _ (T0.setTop (mkF m 0 #[.val (.ref a1), .val (.ref a2)] []))
  refine aL X0 hx (hb hby d_jdk_67m7_0) (q := 1) rfl rfl rfl ?_
  refine aL X0 hx (hb hby d_jdk_67m7_1) (q := 2) rfl rfl rfl ?_
  refine g_su X0 hx hZ0 hown0 (wd54 hw) (same_self (wd55 hw) (wd75 hw) rfl (by decide)) (wd55 hw) (wd56 hw) (wd58 hw) (by decide) Qe e0 (Con.back (W := 0) (rm_aapH l Z a0 hw hl zC SC PC hX a1 vv kv vd a2 t kt us fn h0 O0 Qe Qc Qn Qv Qa Ql Qz Qy Pe Pc Pv Pa Pl hfn) hZ0 (wd58 hw) (wd40 hw) (by decide) (by decide)) (by rw [hml]; rfl) (lenOf pd7 rfl) rfl (Nat.le_of_eq rfl) (hb hby d_jdk_67m7_2) (q := 5) rfl (by decide) (by decide) ?_
  intro v313 T313 L313 X313 Q313
  obtain ⟨rfl, Nq313, K313q, q313_0, q313_1, q313_2, q313_3, q313_4, q313_5⟩ := Q313
  have N313 := Fr.app N0 Nq313
  show Go _ _ _ _ (T313.setTop (mkF m 5 #[.val (.ref a1), .val (.ref a2)] [(.ref a1)]))
  refine g_pop X313 hx (hb hby d_jdk_67m7_5) (q := 6) rfl rfl ?_
  refine aL X313 hx (hb hby d_jdk_67m7_6) (q := 7) rfl rfl rfl ?_
  have K314 : Keep h0 T313.heap [a1, vv] := (Keep.refl h0 [a1, vv]).trans K313q (allS (Or.inl (by simp)) (allS (Or.inl (by simp)) all0))
  refine endP X313 hlk (fun h => by rw [hret] at h; cases h) (lastA X313 hx hret rfl rfl rfl (hb hby d_jdk_67m7_7)) ?_ (by decide) (by decide)
  exact ⟨rfl, N313, K314, q313_0, q313_1, q313_2, q313_3, q313_4, q313_5⟩
theorem d_jdk_68m64_0 : decode jdk_68_method_64_code 0 = .ok (.aload_n 0, 1) := by decide +kernel
theorem d_jdk_68m64_1 : decode jdk_68_method_64_code 1 = .ok (.getfield 15, 3) := by decide +kernel
theorem d_jdk_68m64_4 : decode jdk_68_method_64_code 4 = .ok (.areturn, 1) := by decide +kernel
def Q_gval (Z : State) (zC : Int32) (a1 : Addr) (vv : Addr) (h0 : Heap) (v : Option Value) (h : Heap) (L : List Loc) : Prop := v = some (.ref vv) ∧ Fr Z.heap.size L ∧ h = h0
theorem rm_gval (l : Launch) (Z : State) (a0 : Array Value) (hw : HW a0 Z) (hl : l.stackTraces = true) (zC : Int32) (SC : tSC Z zC) (PC : ¬ zC = (0 : Int32)) (hX : ExW a0 Z) (a1 : Addr) (vv : Addr) (h0 : Heap) (O0 : Old Z Z.heap.size h0) (P1 : Fld Z h0 a1 sT0 "value" "[B" (.ref vv)) :
    Con l Z (⟨sT0, "getValue", "()[B"⟩ : MethodName) jdk_68_method_64_code 1 (some (.array .byte)) ({ frames := 0, cells := 0, slots := 0, locals := 0 } : Room) #[(.ref a1)] h0 (Q_gval Z zC a1 vv h0) := by
  refine Con.intro (plainFor_of_name pn1) ?_
  intro p e s m below meth c T0 X0 hx hby hml hown0 hnm hret hlk hZ0 e0
  have N0 := Fr.nil Z.heap.size
  refine castGo (g' := mkF m 0 #[.val (.ref a1)] []) (by first | rfl | (simp [entryFrame, mkF, argsToLocals, Value.category]; done)) ?_
  show Go _ _ _ _ (T0.setTop (mkF m 0 #[.val (.ref a1)] []))
  refine aL X0 hx (hb hby d_jdk_68m64_0) (q := 1) rfl rfl rfl ?_
  refine g_getF X0 hx hZ0 hown0 (host := "") (Or.inl (wd44 hw)) Via.refl P1 e0 (hb hby d_jdk_68m64_1) (q := 4) rfl ?_
  intro T315 X315 e315
  refine endP X315 hlk (fun h => by rw [hret] at h; cases h) (lastA X315 hx hret rfl rfl rfl (hb hby d_jdk_68m64_4)) ?_ (by decide) (by decide)
  rw [e315]
  exact ⟨rfl, N0, rfl⟩
theorem d_jdk_68m68_0 : decode jdk_68_method_68_code 0 = .ok (.getstatic 18, 3) := by decide +kernel
theorem d_jdk_68m68_3 : decode jdk_68_method_68_code 3 = .ok (.ifCond .eq 14, 3) := by decide +kernel
theorem d_jdk_68m68_6 : decode jdk_68_method_68_code 6 = .ok (.aload_n 0, 1) := by decide +kernel
theorem d_jdk_68m68_7 : decode jdk_68_method_68_code 7 = .ok (.getfield 22, 3) := by decide +kernel
theorem d_jdk_68m68_10 : decode jdk_68_method_68_code 10 = .ok (.ifCond .ne 7, 3) := by decide +kernel
theorem d_jdk_68m68_13 : decode jdk_68_method_68_code 13 = .ok (.iconst 1, 1) := by decide +kernel
theorem d_jdk_68m68_14 : decode jdk_68_method_68_code 14 = .ok (.goto 4, 3) := by decide +kernel
theorem d_jdk_68m68_18 : decode jdk_68_method_68_code 18 = .ok (.ireturn, 1) := by decide +kernel
def Q_isla (Z : State) (zC : Int32) (a1 : Addr) (h0 : Heap) (v : Option Value) (h : Heap) (L : List Loc) : Prop := v = some (iv 1) ∧ Fr Z.heap.size L ∧ h = h0
theorem rm_isla (l : Launch) (Z : State) (a0 : Array Value) (hw : HW a0 Z) (hl : l.stackTraces = true) (zC : Int32) (SC : tSC Z zC) (PC : ¬ zC = (0 : Int32)) (hX : ExW a0 Z) (a1 : Addr) (h0 : Heap) (O0 : Old Z Z.heap.size h0) (P1 : Fld Z h0 a1 sT0 "coder" "B" (iv 0)) :
    Con l Z (⟨sT0, "isLatin1", "()Z"⟩ : MethodName) jdk_68_method_68_code 1 (some .boolean) ({ frames := 0, cells := 0, slots := 0, locals := 0 } : Room) #[(.ref a1)] h0 (Q_isla Z zC a1 h0) := by
  refine Con.intro (plainFor_of_name pn1) ?_
  intro p e s m below meth c T0 X0 hx hby hml hown0 hnm hret hlk hZ0 e0
  have N0 := Fr.nil Z.heap.size
  refine castGo (g' := mkF m 0 #[.val (.ref a1)] []) (by first | rfl | (simp [entryFrame, mkF, argsToLocals, Value.category]; done)) ?_
  show Go _ _ _ _ (T0.setTop (mkF m 0 #[.val (.ref a1)] []))
  refine g_getS X0 hx hZ0 hown0 (host := "") (Or.inl (wd43 hw)) Via.refl (SC.ext O0.2) e0 (hb hby d_jdk_68m68_0) (q := 3) rfl ?_
  intro T316 X316 e316
  refine ifN X316 hx (hb hby d_jdk_68m68_3) (q := 6) rfl ((if0 _ _).trans (feq PC).1) ?_
  refine aL X316 hx (hb hby d_jdk_68m68_6) (q := 7) rfl rfl rfl ?_
  refine g_getF X316 hx hZ0 hown0 (host := "") (Or.inl (wd46 hw)) Via.refl P1 e316 (hb hby d_jdk_68m68_7) (q := 10) rfl ?_
  intro T317 X317 e317
  refine ifN X317 hx (hb hby d_jdk_68m68_10) (q := 13) rfl (by decide) ?_
  refine cI X317 hx (hb hby d_jdk_68m68_13) (q := 14) rfl (z := (1 : Int32)) rfl ?_
  refine g_goto X317 hx (hb hby d_jdk_68m68_14) (q := 18) (by decide) (by decide) ?_
  refine endP X317 hlk (fun h => by rw [hret] at h; cases h) (lastN X317 hx (t := .boolean) (z' := (1 : Int32)) hret (by simp) (by decide) (hb hby d_jdk_68m68_18)) ?_ (by decide) (by decide)
  rw [e317]
  exact ⟨rfl, N0, rfl⟩
theorem d_jdk_68m6_0 : decode jdk_68_method_6_code 0 = .ok (.aload_n 0, 1) := by decide +kernel
theorem d_jdk_68m6_1 : decode jdk_68_method_6_code 1 = .ok (.getfield 79, 3) := by decide +kernel
theorem d_jdk_68m6_4 : decode jdk_68_method_6_code 4 = .ok (.ireturn, 1) := by decide +kernel
def Q_asbl (Z : State) (zC : Int32) (a1 : Addr) (c0 : Int32) (h0 : Heap) (v : Option Value) (h : Heap) (L : List Loc) : Prop := v = some (.int c0) ∧ Fr Z.heap.size L ∧ h = h0
theorem rm_asbl (l : Launch) (Z : State) (a0 : Array Value) (hw : HW a0 Z) (hl : l.stackTraces = true) (zC : Int32) (SC : tSC Z zC) (PC : ¬ zC = (0 : Int32)) (hX : ExW a0 Z) (a1 : Addr) (c0 : Int32) (h0 : Heap) (O0 : Old Z Z.heap.size h0) (P1 : Fld Z h0 a1 sT0 "count" "I" (.int c0)) :
    Con l Z (⟨sT0, "length", "()I"⟩ : MethodName) jdk_68_method_6_code 1 (some .int) ({ frames := 0, cells := 0, slots := 0, locals := 0 } : Room) #[(.ref a1)] h0 (Q_asbl Z zC a1 c0 h0) := by
  refine Con.intro (plainFor_of_name pn1) ?_
  intro p e s m below meth c T0 X0 hx hby hml hown0 hnm hret hlk hZ0 e0
  have N0 := Fr.nil Z.heap.size
  refine castGo (g' := mkF m 0 #[.val (.ref a1)] []) (by first | rfl | (simp [entryFrame, mkF, argsToLocals, Value.category]; done)) ?_
  show Go _ _ _ _ (T0.setTop (mkF m 0 #[.val (.ref a1)] []))
  refine aL X0 hx (hb hby d_jdk_68m6_0) (q := 1) rfl rfl rfl ?_
  refine g_getF X0 hx hZ0 hown0 (host := "") (Or.inl (wd70 hw)) Via.refl P1 e0 (hb hby d_jdk_68m6_1) (q := 4) rfl ?_
  intro T318 X318 e318
  refine endP X318 hlk (fun h => by rw [hret] at h; cases h) (lastI X318 hx hret (hb hby d_jdk_68m6_4)) ?_ (by decide) (by decide)
  rw [e318]
  exact ⟨rfl, N0, rfl⟩
theorem d_jdk_67m93_0 : decode jdk_67_method_93_code 0 = .ok (.aload_n 0, 1) := by decide +kernel
theorem d_jdk_67m93_1 : decode jdk_67_method_93_code 1 = .ok (.invokespecial 343, 3) := by decide +kernel
theorem wd137 {a0 : Array Value} {Z : State} (hw : HW a0 Z) : ((Jvm.Cond.code ({ cls := "java/lang/AbstractStringBuilder", name := "length", desc := "()I" } : Jvm.MethodName) jdk_68_method_6_code (1 : Nat) (Option.some Jvm.ClassFile.FieldType.int)) : Jvm.Cond).before a0 Z = true := hw _ (List.mem_of_getElem? (i := 137) rfl)
theorem wd132 {a0 : Array Value} {Z : State} (hw : HW a0 Z) : ((Jvm.Cond.instanceMethod ({ cls := "java/lang/AbstractStringBuilder", name := "length", desc := "()I" } : Jvm.MethodName)) : Jvm.Cond).before a0 Z = true := hw _ (List.mem_of_getElem? (i := 132) rfl)
theorem wd136 {a0 : Array Value} {Z : State} (hw : HW a0 Z) : ((Jvm.Cond.methodLink "java/lang/StringBuilder" (343 : Nat) ({ cls := "java/lang/AbstractStringBuilder", name := "length", desc := "()I" } : Jvm.MethodName)) : Jvm.Cond).before a0 Z = true := hw _ (List.mem_of_getElem? (i := 136) rfl)
theorem d_jdk_67m93_4 : decode jdk_67_method_93_code 4 = .ok (.ireturn, 1) := by decide +kernel
def Q_sbl (Z : State) (zC : Int32) (a1 : Addr) (c0 : Int32) (h0 : Heap) (v : Option Value) (h : Heap) (L : List Loc) : Prop := v = some (.int c0) ∧ Fr Z.heap.size L ∧ h = h0
theorem rm_sbl (l : Launch) (Z : State) (a0 : Array Value) (hw : HW a0 Z) (hl : l.stackTraces = true) (zC : Int32) (SC : tSC Z zC) (PC : ¬ zC = (0 : Int32)) (hX : ExW a0 Z) (a1 : Addr) (c0 : Int32) (h0 : Heap) (O0 : Old Z Z.heap.size h0) (P0 : Exa Z h0 a1 sT2) (P1 : Fld Z h0 a1 sT0 "count" "I" (.int c0)) :
    Con l Z (⟨sT2, "length", "()I"⟩ : MethodName) jdk_67_method_93_code 1 (some .int) ({ frames := 1, cells := 0, slots := 0, locals := 12 } : Room) #[(.ref a1)] h0 (Q_sbl Z zC a1 c0 h0) := by
  refine Con.intro (plainFor_of_name pn2) ?_
  intro p e s m below meth c T0 X0 hx hby hml hown0 hnm hret hlk hZ0 e0
  have N0 := Fr.nil Z.heap.size
  refine castGo (g' := mkF m 0 #[.val (.ref a1)] []) (by first | rfl | (simp [entryFrame, mkF, argsToLocals, Value.category]; done)) ?_
  show Go _ _ _ _ (T0.setTop (mkF m 0 #[.val (.ref a1)] []))
  refine aL X0 hx (hb hby d_jdk_67m93_0) (q := 1) rfl rfl rfl ?_
  refine g_su X0 hx hZ0 hown0 (wd136 hw) (same_self (wd132 hw) (wd75 hw) rfl (by decide)) (wd132 hw) (wd56 hw) (wd137 hw) (by decide) P0 e0 (Con.back (W := 0) (rm_asbl l Z a0 hw hl zC SC PC hX a1 c0 h0 O0 P1) hZ0 (wd137 hw) (wd40 hw) (by decide) (by decide)) (by rw [hml]; rfl) (lenOf pd5 rfl) rfl (Nat.le_of_eq rfl) (hb hby d_jdk_67m93_1) (q := 4) rfl (by decide) (by decide) ?_
  intro v319 T319 L319 X319 Q319
  obtain ⟨rfl, Nq319, e319⟩ := Q319
  have N319 := Fr.app N0 Nq319
  show Go _ _ _ _ (T319.setTop (mkF m 4 #[.val (.ref a1)] [(.int c0)]))
  refine endP X319 hlk (fun h => by rw [hret] at h; cases h) (lastI X319 hx hret (hb hby d_jdk_67m93_4)) ?_ (by decide) (by decide)
  rw [e319]
  exact ⟨rfl, N319, rfl⟩
theorem d_jdk_65m132_0 : decode jdk_65_method_132_code 0 = .ok (.iload_n 1, 1) := by decide +kernel
theorem d_jdk_65m132_1 : decode jdk_65_method_132_code 1 = .ok (.ifCond .ne 9, 3) := by decide +kernel
theorem d_jdk_65m132_4 : decode jdk_65_method_132_code 4 = .ok (.iload_n 2, 1) := by decide +kernel
theorem d_jdk_65m132_5 : decode jdk_65_method_132_code 5 = .ok (.aload_n 0, 1) := by decide +kernel
theorem d_jdk_65m132_6 : decode jdk_65_method_132_code 6 = .ok (.arraylength, 1) := by decide +kernel
theorem d_jdk_65m132_7 : decode jdk_65_method_132_code 7 = .ok (.if_icmp .eq 10, 3) := by decide +kernel
theorem d_jdk_65m132_17 : decode jdk_65_method_132_code 17 = .ok (.aload_n 0, 1) := by decide +kernel
theorem d_jdk_65m132_18 : decode jdk_65_method_132_code 18 = .ok (.invokevirtual 310, 3) := by decide +kernel
theorem wd147 {a0 : Array Value} {Z : State} (hw : HW a0 Z) : ((Jvm.Cond.methodLink "java/util/Arrays" (310 : Nat) ({ cls := "[B", name := "clone", desc := "()Ljava/lang/Object;" } : Jvm.MethodName)) : Jvm.Cond).before a0 Z = true := hw _ (List.mem_of_getElem? (i := 147) rfl)
theorem wd148 {a0 : Array Value} {Z : State} (hw : HW a0 Z) : ((Jvm.Cond.sameMethod "[B" "java/lang/Object" "clone" "()Ljava/lang/Object;") : Jvm.Cond).before a0 Z = true := hw _ (List.mem_of_getElem? (i := 148) rfl)
theorem wd152 {a0 : Array Value} {Z : State} (hw : HW a0 Z) : ((Jvm.Cond.native ({ cls := "java/lang/Object", name := "clone", desc := "()Ljava/lang/Object;" } : Jvm.MethodName)) : Jvm.Cond).before a0 Z = true := hw _ (List.mem_of_getElem? (i := 152) rfl)
theorem wd150 {a0 : Array Value} {Z : State} (hw : HW a0 Z) : ((Jvm.Cond.instanceMethod ({ cls := "java/lang/Object", name := "clone", desc := "()Ljava/lang/Object;" } : Jvm.MethodName)) : Jvm.Cond).before a0 Z = true := hw _ (List.mem_of_getElem? (i := 150) rfl)
theorem wd151 {a0 : Array Value} {Z : State} (hw : HW a0 Z) : ((Jvm.Cond.selects "[B" ({ cls := "[B", name := "clone", desc := "()Ljava/lang/Object;" } : Jvm.MethodName) ({ cls := "java/lang/Object", name := "clone", desc := "()Ljava/lang/Object;" } : Jvm.MethodName)) : Jvm.Cond).before a0 Z = true := hw _ (List.mem_of_getElem? (i := 151) rfl)
theorem wd153 {a0 : Array Value} {Z : State} (hw : HW a0 Z) : ((Jvm.Cond.castable "[B" "java/lang/Cloneable") : Jvm.Cond).before a0 Z = true := hw _ (List.mem_of_getElem? (i := 153) rfl)
theorem d_jdk_65m132_21 : decode jdk_65_method_132_code 21 = .ok (.checkcast 311, 3) := by decide +kernel
theorem wd154 {a0 : Array Value} {Z : State} (hw : HW a0 Z) : ((Jvm.Cond.classLink "java/util/Arrays" (311 : Nat) "[B") : Jvm.Cond).before a0 Z = true := hw _ (List.mem_of_getElem? (i := 154) rfl)
theorem d_jdk_65m132_24 : decode jdk_65_method_132_code 24 = .ok (.areturn, 1) := by decide +kernel
def Q_corA (Z : State) (zC : Int32) (vv : Addr) (kv : ClassId) (vd : List Value) (h0 : Heap) (v : Option Value) (h : Heap) (L : List Loc) : Prop := ∃ (c : Addr), ∃ (kc : ClassId), v = some (.ref c) ∧ Fr Z.heap.size L ∧ Keep h0 h [] ∧ h0.size ≤ c ∧ Arv Z h c kc .byte (16 : Int32) vd (.int 0) ∧ Exa Z h c "[B"
theorem rm_corA (l : Launch) (Z : State) (a0 : Array Value) (hw : HW a0 Z) (hl : l.stackTraces = true) (zC : Int32) (SC : tSC Z zC) (PC : ¬ zC = (0 : Int32)) (hX : ExW a0 Z) (vv : Addr) (kv : ClassId) (vd : List Value) (h0 : Heap) (O0 : Old Z Z.heap.size h0) (Qa : Arv Z h0 vv kv .byte (16 : Int32) vd (.int 0)) (Ql : (vd.length = 16)) (QE : Exa Z h0 vv "[B") :
    Con l Z (⟨"java/util/Arrays", "copyOfRange", "([BII)[B"⟩ : MethodName) jdk_65_method_132_code 3 (some (.array .byte)) ({ frames := 1, cells := 1, slots := 16, locals := 14 } : Room) #[(.ref vv), (iv 0), (iv 16)] h0 (Q_corA Z zC vv kv vd h0) := by
  refine Con.intro (plainFor_of_name pn4) ?_
  intro p e s m below meth c T0 X0 hx hby hml hown0 hnm hret hlk hZ0 e0
  have N0 := Fr.nil Z.heap.size
  refine castGo (g' := mkF m 0 #[.val (.ref vv), .val (iv 0), .val (iv 16)] []) (by first | rfl | (simp [entryFrame, mkF, argsToLocals, Value.category]; done)) ?_
  show Go _ _ _ _ (T0.setTop (mkF m 0 #[.val (.ref vv), .val (iv 0), .val (iv 16)] []))
  refine iL X0 hx (hb hby d_jdk_65m132_0) (q := 1) rfl rfl ?_
  refine ifN X0 hx (hb hby d_jdk_65m132_1) (q := 4) rfl (by decide) ?_
  refine iL X0 hx (hb hby d_jdk_65m132_4) (q := 5) rfl rfl ?_
  refine aL X0 hx (hb hby d_jdk_65m132_5) (q := 6) rfl rfl rfl ?_
  refine g_len X0 hx hZ0 Qa e0 (hb hby d_jdk_65m132_6) (q := 7) rfl ?_
  refine icY X0 hx (hb hby d_jdk_65m132_7) (q := 17) (by decide) (by decide) (by decide) ?_
  refine aL X0 hx (hb hby d_jdk_65m132_17) (q := 18) rfl rfl rfl ?_
  refine g_clone X0 hx hZ0 hown0 (wd147 hw) (wd148 hw) (wd152 hw) (wd150 hw) (wd151 hw) (wd153 hw) Qa QE (by rw [hml]; rfl) (by decide) (W := 0) (cap := 16) (Nat.le_of_eq rfl) (by decide) (by decide) (by decide) (by decide) e0 (hb hby d_jdk_65m132_18) (q := 21) rfl ?_
  intro T320 h320 b320 g320 X320 e320 E320 V320 A320
  refine g_cast X320 hx hZ0 hown0 (wd154 hw) (Ins.self A320) e320 (hb hby d_jdk_65m132_21) (q := 24) rfl ?_
  intro T321 X321 e321
  have K322 : Keep h0 h320 [] := (Keep.refl h0 []).ext E320
  have gh323 : h0.size ≤ b320 := Nat.le_trans (Nat.le_refl _) (Nat.le_of_eq g320.symm)
  refine endP X321 hlk (fun h => by rw [hret] at h; cases h) (lastA X321 hx hret rfl rfl rfl (hb hby d_jdk_65m132_24)) ?_ (by decide) (by decide)
  rw [e321]
  exact ⟨b320, kv, rfl, N0, K322, gh323, V320, A320⟩
theorem d_jdk_42m150_0 : decode jdk_42_method_150_code 0 = .ok (.aload_n 0, 1) := by decide +kernel
theorem d_jdk_42m150_1 : decode jdk_42_method_150_code 1 = .ok (.invokespecial 1, 3) := by decide +kernel
theorem d_jdk_42m150_4 : decode jdk_42_method_150_code 4 = .ok (.aload_n 1, 1) := by decide +kernel
theorem d_jdk_42m150_5 : decode jdk_42_method_150_code 5 = .ok (.invokevirtual 552, 3) := by decide +kernel
theorem wd129 {a0 : Array Value} {Z : State} (hw : HW a0 Z) : ((Jvm.Cond.code ({ cls := "java/lang/AbstractStringBuilder", name := "getValue", desc := "()[B" } : Jvm.MethodName) jdk_68_method_64_code (1 : Nat) (Option.some (Jvm.ClassFile.FieldType.array Jvm.ClassFile.FieldType.byte))) : Jvm.Cond).before a0 Z = true := hw _ (List.mem_of_getElem? (i := 129) rfl)
theorem pd12 : parseMethodDescriptor "()[B" = some ⟨[], some (.array .byte)⟩ := by decide +kernel
theorem wd128 {a0 : Array Value} {Z : State} (hw : HW a0 Z) : ((Jvm.Cond.selects "java/lang/StringBuilder" ({ cls := "java/lang/AbstractStringBuilder", name := "getValue", desc := "()[B" } : Jvm.MethodName) ({ cls := "java/lang/AbstractStringBuilder", name := "getValue", desc := "()[B" } : Jvm.MethodName)) : Jvm.Cond).before a0 Z = true := hw _ (List.mem_of_getElem? (i := 128) rfl)
theorem wd125 {a0 : Array Value} {Z : State} (hw : HW a0 Z) : ((Jvm.Cond.methodLink "java/lang/String" (552 : Nat) ({ cls := "java/lang/AbstractStringBuilder", name := "getValue", desc := "()[B" } : Jvm.MethodName)) : Jvm.Cond).before a0 Z = true := hw _ (List.mem_of_getElem? (i := 125) rfl)
theorem wd126 {a0 : Array Value} {Z : State} (hw : HW a0 Z) : ((Jvm.Cond.declares ({ cls := "java/lang/AbstractStringBuilder", name := "getValue", desc := "()[B" } : Jvm.MethodName)) : Jvm.Cond).before a0 Z = true := hw _ (List.mem_of_getElem? (i := 126) rfl)
theorem wd127 {a0 : Array Value} {Z : State} (hw : HW a0 Z) : ((Jvm.Cond.instanceMethod ({ cls := "java/lang/AbstractStringBuilder", name := "getValue", desc := "()[B" } : Jvm.MethodName)) : Jvm.Cond).before a0 Z = true := hw _ (List.mem_of_getElem? (i := 127) rfl)
theorem d_jdk_42m150_8 : decode jdk_42_method_150_code 8 = .ok (.astore_n 3, 1) := by decide +kernel
theorem d_jdk_42m150_9 : decode jdk_42_method_150_code 9 = .ok (.aload_n 1, 1) := by decide +kernel
theorem d_jdk_42m150_10 : decode jdk_42_method_150_code 10 = .ok (.invokevirtual 549, 3) := by decide +kernel
theorem wd135 {a0 : Array Value} {Z : State} (hw : HW a0 Z) : ((Jvm.Cond.code ({ cls := "java/lang/StringBuilder", name := "length", desc := "()I" } : Jvm.MethodName) jdk_67_method_93_code (1 : Nat) (Option.some Jvm.ClassFile.FieldType.int)) : Jvm.Cond).before a0 Z = true := hw _ (List.mem_of_getElem? (i := 135) rfl)
theorem wd32 {a0 : Array Value} {Z : State} (hw : HW a0 Z) : ((Jvm.Cond.initialized "java/lang/StringBuilder") : Jvm.Cond).before a0 Z = true := hw _ (List.mem_of_getElem? (i := 32) rfl)
theorem wd133 {a0 : Array Value} {Z : State} (hw : HW a0 Z) : ((Jvm.Cond.selects "java/lang/StringBuilder" ({ cls := "java/lang/AbstractStringBuilder", name := "length", desc := "()I" } : Jvm.MethodName) ({ cls := "java/lang/StringBuilder", name := "length", desc := "()I" } : Jvm.MethodName)) : Jvm.Cond).before a0 Z = true := hw _ (List.mem_of_getElem? (i := 133) rfl)
theorem wd130 {a0 : Array Value} {Z : State} (hw : HW a0 Z) : ((Jvm.Cond.methodLink "java/lang/String" (549 : Nat) ({ cls := "java/lang/AbstractStringBuilder", name := "length", desc := "()I" } : Jvm.MethodName)) : Jvm.Cond).before a0 Z = true := hw _ (List.mem_of_getElem? (i := 130) rfl)
theorem wd131 {a0 : Array Value} {Z : State} (hw : HW a0 Z) : ((Jvm.Cond.declares ({ cls := "java/lang/AbstractStringBuilder", name := "length", desc := "()I" } : Jvm.MethodName)) : Jvm.Cond).before a0 Z = true := hw _ (List.mem_of_getElem? (i := 131) rfl)
theorem wd134 {a0 : Array Value} {Z : State} (hw : HW a0 Z) : ((Jvm.Cond.instanceMethod ({ cls := "java/lang/StringBuilder", name := "length", desc := "()I" } : Jvm.MethodName)) : Jvm.Cond).before a0 Z = true := hw _ (List.mem_of_getElem? (i := 134) rfl)
theorem d_jdk_42m150_13 : decode jdk_42_method_150_code 13 = .ok (.istore 4, 2) := by decide +kernel
theorem d_jdk_42m150_15 : decode jdk_42_method_150_code 15 = .ok (.aload_n 1, 1) := by decide +kernel
theorem d_jdk_42m150_16 : decode jdk_42_method_150_code 16 = .ok (.invokevirtual 1047, 3) := by decide +kernel
theorem wd142 {a0 : Array Value} {Z : State} (hw : HW a0 Z) : ((Jvm.Cond.code ({ cls := "java/lang/AbstractStringBuilder", name := "isLatin1", desc := "()Z" } : Jvm.MethodName) jdk_68_method_68_code (1 : Nat) (Option.some Jvm.ClassFile.FieldType.boolean)) : Jvm.Cond).before a0 Z = true := hw _ (List.mem_of_getElem? (i := 142) rfl)
theorem pd13 : parseMethodDescriptor "()Z" = some ⟨[], some .boolean⟩ := by decide +kernel
theorem wd141 {a0 : Array Value} {Z : State} (hw : HW a0 Z) : ((Jvm.Cond.selects "java/lang/StringBuilder" ({ cls := "java/lang/AbstractStringBuilder", name := "isLatin1", desc := "()Z" } : Jvm.MethodName) ({ cls := "java/lang/AbstractStringBuilder", name := "isLatin1", desc := "()Z" } : Jvm.MethodName)) : Jvm.Cond).before a0 Z = true := hw _ (List.mem_of_getElem? (i := 141) rfl)
theorem wd138 {a0 : Array Value} {Z : State} (hw : HW a0 Z) : ((Jvm.Cond.methodLink "java/lang/String" (1047 : Nat) ({ cls := "java/lang/AbstractStringBuilder", name := "isLatin1", desc := "()Z" } : Jvm.MethodName)) : Jvm.Cond).before a0 Z = true := hw _ (List.mem_of_getElem? (i := 138) rfl)
theorem wd139 {a0 : Array Value} {Z : State} (hw : HW a0 Z) : ((Jvm.Cond.declares ({ cls := "java/lang/AbstractStringBuilder", name := "isLatin1", desc := "()Z" } : Jvm.MethodName)) : Jvm.Cond).before a0 Z = true := hw _ (List.mem_of_getElem? (i := 139) rfl)
theorem wd140 {a0 : Array Value} {Z : State} (hw : HW a0 Z) : ((Jvm.Cond.instanceMethod ({ cls := "java/lang/AbstractStringBuilder", name := "isLatin1", desc := "()Z" } : Jvm.MethodName)) : Jvm.Cond).before a0 Z = true := hw _ (List.mem_of_getElem? (i := 140) rfl)
theorem d_jdk_42m150_19 : decode jdk_42_method_150_code 19 = .ok (.ifCond .eq 22, 3) := by decide +kernel
theorem d_jdk_42m150_22 : decode jdk_42_method_150_code 22 = .ok (.aload_n 0, 1) := by decide +kernel
theorem d_jdk_42m150_23 : decode jdk_42_method_150_code 23 = .ok (.iconst 0, 1) := by decide +kernel
theorem d_jdk_42m150_24 : decode jdk_42_method_150_code 24 = .ok (.putfield 15, 3) := by decide +kernel
theorem d_jdk_42m150_27 : decode jdk_42_method_150_code 27 = .ok (.aload_n 0, 1) := by decide +kernel
theorem d_jdk_42m150_28 : decode jdk_42_method_150_code 28 = .ok (.aload_n 3, 1) := by decide +kernel
theorem d_jdk_42m150_29 : decode jdk_42_method_150_code 29 = .ok (.iconst 0, 1) := by decide +kernel
theorem d_jdk_42m150_30 : decode jdk_42_method_150_code 30 = .ok (.iload 4, 2) := by decide +kernel
theorem d_jdk_42m150_32 : decode jdk_42_method_150_code 32 = .ok (.invokestatic 54, 3) := by decide +kernel
theorem wd146 {a0 : Array Value} {Z : State} (hw : HW a0 Z) : ((Jvm.Cond.code ({ cls := "java/util/Arrays", name := "copyOfRange", desc := "([BII)[B" } : Jvm.MethodName) jdk_65_method_132_code (3 : Nat) (Option.some (Jvm.ClassFile.FieldType.array Jvm.ClassFile.FieldType.byte))) : Jvm.Cond).before a0 Z = true := hw _ (List.mem_of_getElem? (i := 146) rfl)
theorem pd14 : parseMethodDescriptor "([BII)[B" = some ⟨[(.array .byte), .int, .int], some (.array .byte)⟩ := by decide +kernel
theorem wd143 {a0 : Array Value} {Z : State} (hw : HW a0 Z) : ((Jvm.Cond.methodLink "java/lang/String" (54 : Nat) ({ cls := "java/util/Arrays", name := "copyOfRange", desc := "([BII)[B" } : Jvm.MethodName)) : Jvm.Cond).before a0 Z = true := hw _ (List.mem_of_getElem? (i := 143) rfl)
theorem wd144 {a0 : Array Value} {Z : State} (hw : HW a0 Z) : ((Jvm.Cond.static ({ cls := "java/util/Arrays", name := "copyOfRange", desc := "([BII)[B" } : Jvm.MethodName)) : Jvm.Cond).before a0 Z = true := hw _ (List.mem_of_getElem? (i := 144) rfl)
theorem d_jdk_42m150_35 : decode jdk_42_method_150_code 35 = .ok (.putfield 9, 3) := by decide +kernel
theorem d_jdk_42m150_38 : decode jdk_42_method_150_code 38 = .ok (.goto 59, 3) := by decide +kernel
theorem d_jdk_42m150_97 : decode jdk_42_method_150_code 97 = .ok (.return_, 1) := by decide +kernel
def Q_siaA (Z : State) (zC : Int32) (a1 : Addr) (a2 : Addr) (vv : Addr) (kv : ClassId) (vd : List Value) (h0 : Heap) (v : Option Value) (h : Heap) (L : List Loc) : Prop := ∃ (c : Addr), ∃ (kc : ClassId), v = none ∧ Fr Z.heap.size L ∧ Keep h0 h [a1] ∧ Exa Z h a1 sT1 ∧ Fld Z h a1 sT1 "coder" "B" (iv 0) ∧ Fld Z h a1 sT1 "value" "[B" (.ref c) ∧ h0.size ≤ c ∧ Arv Z h c kc .byte (16 : Int32) vd (.int 0)
theorem rm_siaA (l : Launch) (Z : State) (a0 : Array Value) (hw : HW a0 Z) (hl : l.stackTraces = true) (zC : Int32) (SC : tSC Z zC) (PC : ¬ zC = (0 : Int32)) (hX : ExW a0 Z) (a1 : Addr) (a2 : Addr) (vv : Addr) (kv : ClassId) (vd : List Value) (h0 : Heap) (O0 : Old Z Z.heap.size h0) (Pe : Exa Z h0 a1 sT1) (Pc : Fld Z h0 a1 sT1 "coder" "B" (iv 0)) (Pv : Fld Z h0 a1 sT1 "value" "[B" .null) (Pz : Z.heap.size ≤ a1) (Qe : Exa Z h0 a2 sT2) (Qc : Fld Z h0 a2 sT0 "coder" "B" (iv 0)) (Qn : Fld Z h0 a2 sT0 "count" "I" (iv 16)) (Qv : Fld Z h0 a2 sT0 "value" "[B" (.ref vv)) (Qa : Arv Z h0 vv kv .byte (16 : Int32) vd (.int 0)) (Ql : (vd.length = 16)) (QE : Exa Z h0 vv "[B") :
    Con l Z (⟨sT1, "<init>", "(Ljava/lang/AbstractStringBuilder;Ljava/lang/Void;)V"⟩ : MethodName) jdk_42_method_150_code 5 none ({ frames := 2, cells := 1, slots := 16, locals := 29 } : Room) #[(.ref a1), (.ref a2), .null] h0 (Q_siaA Z zC a1 a2 vv kv vd h0) := by
  refine Con.intro (plainFor_of_name pn0) ?_
  intro p e s m below meth c T0 X0 hx hby hml hown0 hnm hret hlk hZ0 e0
  have N0 := Fr.nil Z.heap.size
  refine castGo (g' := mkF m 0 #[.val (.ref a1), .val (.ref a2), .val .null, .unset, .unset] []) (by first | rfl | (simp [entryFrame, mkF, argsToLocals, Value.category]; done)) ?_
  show Go _ _ _ _ (T0.setTop (mkF m 0 #[.val (.ref a1), .val (.ref a2), .val .null, .unset, .unset] []))
  refine aL X0 hx (hb hby d_jdk_42m150_0) (q := 1) rfl rfl rfl ?_
  refine g_init0 X0 hx hZ0 hown0 (wd12 hw) (wd13 hw) (wd14 hw) (by rw [hml]; rfl) (by decide) (W := 0) (Nat.le_of_eq rfl) (by decide) e0 (hb hby d_jdk_42m150_1) (q := 4) rfl ?_
  intro T324 X324 e324
  refine aL X324 hx (hb hby d_jdk_42m150_4) (q := 5) rfl rfl rfl ?_
  refine g_vi X324 hx hZ0 hown0 (wd125 hw) (wd126 hw) (notFace_of_selects (args := #[]) (mvT hZ0 (wd128 hw))) (wd128 hw) (wd127 hw) (by decide) Qe e324 (Con.back (W := 0) (rm_gval l Z a0 hw hl zC SC PC hX a2 vv h0 O0 Qv) hZ0 (wd129 hw) (wd40 hw) (by decide) (by decide)) (by rw [hml]; rfl) (lenOf pd12 rfl) rfl (Nat.le_of_eq rfl) (hb hby d_jdk_42m150_5) (q := 8) rfl (by decide) (by decide) ?_
  intro v325 T325 L325 X325 Q325
  obtain ⟨rfl, Nq325, e325⟩ := Q325
  have N325 := Fr.app N0 Nq325
  show Go _ _ _ _ (T325.setTop (mkF m 8 #[.val (.ref a1), .val (.ref a2), .val .null, .unset, .unset] [(.ref vv)]))
  refine sA X325 hx (hb hby d_jdk_42m150_8) (q := 9) rfl rfl (Ls' := #[.val (.ref a1), .val (.ref a2), .val .null, .val (.ref vv), .unset]) rfl ?_
  refine aL X325 hx (hb hby d_jdk_42m150_9) (q := 10) rfl rfl rfl ?_
  refine g_vi X325 hx hZ0 hown0 (wd130 hw) (wd131 hw) (nf_of (as := #[]) (mvT hZ0 (wd75 hw)) rfl) (wd133 hw) (wd134 hw) (by decide) Qe e325 (Con.back (W := 0) (rm_sbl l Z a0 hw hl zC SC PC hX a2 (16 : Int32) h0 O0 Qe Qn) hZ0 (wd135 hw) (wd32 hw) (by decide) (by decide)) (by rw [hml]; rfl) (lenOf pd5 rfl) rfl (Nat.le_of_eq rfl) (hb hby d_jdk_42m150_10) (q := 13) rfl (by decide) (by decide) ?_
  intro v326 T326 L326 X326 Q326
  obtain ⟨rfl, Nq326, e326⟩ := Q326
  have N326 := Fr.app N325 Nq326
  show Go _ _ _ _ (T326.setTop (mkF m 13 #[.val (.ref a1), .val (.ref a2), .val .null, .val (.ref vv), .unset] [(iv 16)]))
  refine sIw X326 hx (hb hby d_jdk_42m150_13) (q := 15) rfl (Ls' := #[.val (.ref a1), .val (.ref a2), .val .null, .val (.ref vv), .val (iv 16)]) rfl ?_
  refine aL X326 hx (hb hby d_jdk_42m150_15) (q := 16) rfl rfl rfl ?_
  refine g_vi X326 hx hZ0 hown0 (wd138 hw) (wd139 hw) (notFace_of_selects (args := #[]) (mvT hZ0 (wd141 hw))) (wd141 hw) (wd140 hw) (by decide) Qe e326 (Con.back (W := 0) (rm_isla l Z a0 hw hl zC SC PC hX a2 h0 O0 Qc) hZ0 (wd142 hw) (wd40 hw) (by decide) (by decide)) (by rw [hml]; rfl) (lenOf pd13 rfl) rfl (Nat.le_of_eq rfl) (hb hby d_jdk_42m150_16) (q := 19) rfl (by decide) (by decide) ?_
  intro v327 T327 L327 X327 Q327
  obtain ⟨rfl, Nq327, e327⟩ := Q327
  have N327 := Fr.app N326 Nq327
  show Go _ _ _ _ (T327.setTop (mkF m 19 #[.val (.ref a1), .val (.ref a2), .val .null, .val (.ref vv), .val (iv 16)] [(iv 1)]))
  refine ifN X327 hx (hb hby d_jdk_42m150_19) (q := 22) rfl (by decide) ?_
  refine aL X327 hx (hb hby d_jdk_42m150_22) (q := 23) rfl rfl rfl ?_
  refine cI X327 hx (hb hby d_jdk_42m150_23) (q := 24) rfl (z := (0 : Int32)) rfl ?_
  refine g_putF X327 hx hZ0 hown0 (host := "") (Or.inl (wd22 hw)) Via.refl Pc Pe (Or.inr ⟨(wd18 hw), rfl, hnm⟩) (wd2 hw) (ty := .byte) (by decide) rfl rfl e327 (hb hby d_jdk_42m150_24) (q := 27) rfl ?_
  intro T328 h328 X328 e328 W328
  have N328 := Fr.snoc X328 N327 Pz
  have Fw328 : Fld Z h328 a1 sT1 "coder" "B" (iv 0) := Pc.same W328
  refine aL X328 hx (hb hby d_jdk_42m150_27) (q := 28) rfl rfl rfl ?_
  refine aL X328 hx (hb hby d_jdk_42m150_28) (q := 29) rfl rfl rfl ?_
  refine cI X328 hx (hb hby d_jdk_42m150_29) (q := 30) rfl (z := (0 : Int32)) rfl ?_
  refine iLw X328 hx (hb hby d_jdk_42m150_30) (q := 32) rfl rfl ?_
  have ne333 : vv ≠ a1 := (ne_exa QE Pe (by decide))
  have f334 := Qa.other W328 ne333
  have f335 := QE.wr W328
  have f336 := O0.wr W328 Pz
  refine g_st X328 hx hZ0 hown0 (wd143 hw) (wd144 hw) (wd145 hw) (wd146 hw) (by decide) e328 (Con.back (W := 1) (rm_corA l Z a0 hw hl zC SC PC hX vv kv vd h328 f336 f334 Ql f335) hZ0 (wd146 hw) (wd145 hw) (by decide) (by decide)) (by rw [hml]; rfl) (lenOf pd14 rfl) rfl (Nat.le_of_eq rfl) (hb hby d_jdk_42m150_32) (q := 35) rfl (by decide) (by decide) ?_
  intro v332 T332 L332 X332 Q332
  obtain ⟨c_332, kc_332, rfl, Nq332, K332q, q332_0, q332_1, q332_2⟩ := Q332
  have N332 := Fr.app N328 Nq332
  show Go _ _ _ _ (T332.setTop (mkF m 35 #[.val (.ref a1), .val (.ref a2), .val .null, .val (.ref vv), .val (iv 16)] [(.ref c_332), (.ref a1)]))
  have f337 := Pv.other W328 (Or.inr (slot_ne (Or.inr (wd17 hw)) (Or.inr (wd18 hw)) (by decide) (t := (.array .byte)) (t' := .byte) (by decide) (by decide)))
  have f338 := f337.keep K332q nin0
  have f339 := Pe.wr W328
  have f340 := f339.keep K332q
  refine g_putF X332 hx hZ0 hown0 (host := "") (Or.inl (wd21 hw)) Via.refl f338 f340 (Or.inr ⟨(wd17 hw), rfl, hnm⟩) (wd2 hw) (ty := (.array .byte)) (by decide) rfl rfl rfl (hb hby d_jdk_42m150_35) (q := 38) rfl ?_
  intro T341 h341 X341 e341 W341
  have N341 := Fr.snoc X341 N332 Pz
  have Fw341 : Fld Z h341 a1 sT1 "value" "[B" (.ref c_332) := f338.same W341
  refine g_goto X341 hx (hb hby d_jdk_42m150_38) (q := 97) (by decide) (by decide) ?_
  have K342 : Keep h0 h328 [a1] := (Keep.refl h0 [a1]).wr W328 (Or.inl (by simp))
  have K343 : Keep h0 T332.heap [a1] := K342.trans K332q all0
  have K344 : Keep h0 h341 [a1] := K343.wr W341 (Or.inl (by simp))
  have f345 := f340.wr W341
  have f346 := Fw328.keep K332q nin0
  have f347 := f346.other W341 (Or.inr (slot_ne (Or.inr (wd18 hw)) (Or.inr (wd17 hw)) (by decide) (t := .byte) (t' := (.array .byte)) (by decide) (by decide)))
  have le349 := (Nat.le_of_eq (Wr.size W328).symm)
  have gh348 : h0.size ≤ c_332 := Nat.le_trans le349 q332_0
  have ne350 : c_332 ≠ a1 := (Nat.ne_of_gt (Nat.lt_of_lt_of_le (Nat.lt_of_lt_of_le Pe.lt le349) q332_0))
  have f351 := q332_1.other W341 ne350
  refine endP X341 hlk (fun _ => rfl) (lastV X341 hx hret (hb hby d_jdk_42m150_97)) ?_ (by decide) (by decide)
  rw [e341]
  exact ⟨c_332, kc_332, rfl, N341, K344, f345, f347, Fw341, gh348, f351⟩
theorem d_jdk_42m53_0 : decode jdk_42_method_53_code 0 = .ok (.aload_n 0, 1) := by decide +kernel
theorem d_jdk_42m53_1 : decode jdk_42_method_53_code 1 = .ok (.aload_n 1, 1) := by decide +kernel
theorem d_jdk_42m53_2 : decode jdk_42_method_53_code 2 = .ok (.aconst_null, 1) := by decide +kernel
theorem d_jdk_42m53_3 : decode jdk_42_method_53_code 3 = .ok (.invokespecial 489, 3) := by decide +kernel
theorem wd124 {a0 : Array Value} {Z : State} (hw : HW a0 Z) : ((Jvm.Cond.code ({ cls := "java/lang/String", name := "<init>", desc := "(Ljava/lang/AbstractStringBuilder;Ljava/lang/Void;)V" } : Jvm.MethodName) jdk_42_method_150_code (5 : Nat) (Option.none : Option Jvm.ClassFile.FieldType)) : Jvm.Cond).before a0 Z = true := hw _ (List.mem_of_getElem? (i := 124) rfl)
theorem pd15 : parseMethodDescriptor "(Ljava/lang/AbstractStringBuilder;Ljava/lang/Void;)V" = some ⟨[(.object "java/lang/AbstractStringBuilder"), (.object "java/lang/Void")], none⟩ := by decide +kernel
theorem wd122 {a0 : Array Value} {Z : State} (hw : HW a0 Z) : ((Jvm.Cond.methodLink "java/lang/String" (489 : Nat) ({ cls := "java/lang/String", name := "<init>", desc := "(Ljava/lang/AbstractStringBuilder;Ljava/lang/Void;)V" } : Jvm.MethodName)) : Jvm.Cond).before a0 Z = true := hw _ (List.mem_of_getElem? (i := 122) rfl)
theorem wd123 {a0 : Array Value} {Z : State} (hw : HW a0 Z) : ((Jvm.Cond.instanceMethod ({ cls := "java/lang/String", name := "<init>", desc := "(Ljava/lang/AbstractStringBuilder;Ljava/lang/Void;)V" } : Jvm.MethodName)) : Jvm.Cond).before a0 Z = true := hw _ (List.mem_of_getElem? (i := 123) rfl)
theorem d_jdk_42m53_6 : decode jdk_42_method_53_code 6 = .ok (.return_, 1) := by decide +kernel
def Q_sisA (Z : State) (zC : Int32) (a1 : Addr) (a2 : Addr) (vv : Addr) (kv : ClassId) (vd : List Value) (h0 : Heap) (v : Option Value) (h : Heap) (L : List Loc) : Prop := ∃ (c : Addr), ∃ (kc : ClassId), v = none ∧ Fr Z.heap.size L ∧ Keep h0 h [a1] ∧ Exa Z h a1 sT1 ∧ Fld Z h a1 sT1 "coder" "B" (iv 0) ∧ Fld Z h a1 sT1 "value" "[B" (.ref c) ∧ h0.size ≤ c ∧ Arv Z h c kc .byte (16 : Int32) vd (.int 0)
theorem rm_sisA (l : Launch) (Z : State) (a0 : Array Value) (hw : HW a0 Z) (hl : l.stackTraces = true) (zC : Int32) (SC : tSC Z zC) (PC : ¬ zC = (0 : Int32)) (hX : ExW a0 Z) (a1 : Addr) (a2 : Addr) (vv : Addr) (kv : ClassId) (vd : List Value) (h0 : Heap) (O0 : Old Z Z.heap.size h0) (Pe : Exa Z h0 a1 sT1) (Pc : Fld Z h0 a1 sT1 "coder" "B" (iv 0)) (Pv : Fld Z h0 a1 sT1 "value" "[B" .null) (Pz : Z.heap.size ≤ a1) (Qe : Exa Z h0 a2 sT2) (Qc : Fld Z h0 a2 sT0 "coder" "B" (iv 0)) (Qn : Fld Z h0 a2 sT0 "count" "I" (iv 16)) (Qv : Fld Z h0 a2 sT0 "value" "[B" (.ref vv)) (Qa : Arv Z h0 vv kv .byte (16 : Int32) vd (.int 0)) (Ql : (vd.length = 16)) (QE : Exa Z h0 vv "[B") :
    Con l Z (⟨sT1, "<init>", "(Ljava/lang/StringBuilder;)V"⟩ : MethodName) jdk_42_method_53_code 2 none ({ frames := 3, cells := 1, slots := 16, locals := 45 } : Room) #[(.ref a1), (.ref a2)] h0 (Q_sisA Z zC a1 a2 vv kv vd h0) := by
  refine Con.intro (plainFor_of_name pn0) ?_
  intro p e s m below meth c T0 X0 hx hby hml hown0 hnm hret hlk hZ0 e0
  have N0 := Fr.nil Z.heap.size
  refine castGo (g' := mkF m 0 #[.val (.ref a1), .val (.ref a2)] []) (by first | rfl | (simp [entryFrame, mkF, argsToLocals, Value.category]; done)) ?_
  show Go _ _ _ _ (T0.setTop (mkF m 0 #[.val (.ref a1), .val (.ref a2)] []))
  refine aL X0 hx (hb hby d_jdk_42m53_0) (q := 1) rfl rfl rfl ?_
  refine aL X0 hx (hb hby d_jdk_42m53_1) (q := 2) rfl rfl rfl ?_
  refine cN X0 hx (hb hby d_jdk_42m53_2) (q := 3) rfl ?_
  refine g_sp X0 hx hZ0 hown0 (wd122 hw) (wd123 hw) (wd124 hw) rfl (by decide) e0 (Con.back (W := 0) (rm_siaA l Z a0 hw hl zC SC PC hX a1 a2 vv kv vd h0 O0 Pe Pc Pv Pz Qe Qc Qn Qv Qa Ql QE) hZ0 (wd124 hw) (wd3 hw) (by decide) (by decide)) (by rw [hml]; rfl) (lenOf pd15 rfl) rfl (Nat.le_of_eq rfl) (hb hby d_jdk_42m53_3) (q := 6) rfl (by decide) (by decide) ?_
  intro v352 T352 L352 X352 Q352
  obtain ⟨c_352, kc_352, rfl, Nq352, K352q, q352_0, q352_1, q352_2, q352_3, q352_4⟩ := Q352
  have N352 := Fr.app N0 Nq352
  show Go _ _ _ _ (T352.setTop (mkF m 6 #[.val (.ref a1), .val (.ref a2)] []))
  have K353 : Keep h0 T352.heap [a1] := (Keep.refl h0 [a1]).trans K352q (allS (Or.inl (by simp)) all0)
  have gh354 : h0.size ≤ c_352 := Nat.le_trans (Nat.le_refl _) q352_3
  refine endP X352 hlk (fun _ => rfl) (lastV X352 hx hret (hb hby d_jdk_42m53_6)) ?_ (by decide) (by decide)
  exact ⟨c_352, kc_352, rfl, N352, K353, q352_0, q352_1, q352_2, gh354, q352_4⟩
theorem d_jdk_67m42_0 : decode jdk_67_method_42_code 0 = .ok (.new 18, 3) := by decide +kernel
theorem wd118 {a0 : Array Value} {Z : State} (hw : HW a0 Z) : ((Jvm.Cond.classLink "java/lang/StringBuilder" (18 : Nat) "java/lang/String") : Jvm.Cond).before a0 Z = true := hw _ (List.mem_of_getElem? (i := 118) rfl)
theorem d_jdk_67m42_3 : decode jdk_67_method_42_code 3 = .ok (.dup, 1) := by decide +kernel
theorem d_jdk_67m42_4 : decode jdk_67_method_42_code 4 = .ok (.aload_n 0, 1) := by decide +kernel
theorem d_jdk_67m42_5 : decode jdk_67_method_42_code 5 = .ok (.invokespecial 137, 3) := by decide +kernel
theorem wd121 {a0 : Array Value} {Z : State} (hw : HW a0 Z) : ((Jvm.Cond.code ({ cls := "java/lang/String", name := "<init>", desc := "(Ljava/lang/StringBuilder;)V" } : Jvm.MethodName) jdk_42_method_53_code (2 : Nat) (Option.none : Option Jvm.ClassFile.FieldType)) : Jvm.Cond).before a0 Z = true := hw _ (List.mem_of_getElem? (i := 121) rfl)
theorem pd16 : parseMethodDescriptor "(Ljava/lang/StringBuilder;)V" = some ⟨[(.object "java/lang/StringBuilder")], none⟩ := by decide +kernel
theorem wd119 {a0 : Array Value} {Z : State} (hw : HW a0 Z) : ((Jvm.Cond.methodLink "java/lang/StringBuilder" (137 : Nat) ({ cls := "java/lang/String", name := "<init>", desc := "(Ljava/lang/StringBuilder;)V" } : Jvm.MethodName)) : Jvm.Cond).before a0 Z = true := hw _ (List.mem_of_getElem? (i := 119) rfl)
theorem wd120 {a0 : Array Value} {Z : State} (hw : HW a0 Z) : ((Jvm.Cond.instanceMethod ({ cls := "java/lang/String", name := "<init>", desc := "(Ljava/lang/StringBuilder;)V" } : Jvm.MethodName)) : Jvm.Cond).before a0 Z = true := hw _ (List.mem_of_getElem? (i := 120) rfl)
theorem d_jdk_67m42_8 : decode jdk_67_method_42_code 8 = .ok (.areturn, 1) := by decide +kernel
def Q_tosA (Z : State) (zC : Int32) (a2 : Addr) (vv : Addr) (kv : ClassId) (vd : List Value) (h0 : Heap) (v : Option Value) (h : Heap) (L : List Loc) : Prop := ∃ (r : Addr), ∃ (c : Addr), ∃ (kc : ClassId), v = some (.ref r) ∧ Fr Z.heap.size L ∧ Keep h0 h [] ∧ h0.size ≤ r ∧ Exa Z h r sT1 ∧ Fld Z h r sT1 "coder" "B" (iv 0) ∧ Fld Z h r sT1 "value" "[B" (.ref c) ∧ h0.size ≤ c ∧ Arv Z h c kc .byte (16 : Int32) vd (.int 0)
theorem rm_tosA (l : Launch) (Z : State) (a0 : Array Value) (hw : HW a0 Z) (hl : l.stackTraces = true) (zC : Int32) (SC : tSC Z zC) (PC : ¬ zC = (0 : Int32)) (hX : ExW a0 Z) (a2 : Addr) (vv : Addr) (kv : ClassId) (vd : List Value) (h0 : Heap) (O0 : Old Z Z.heap.size h0) (Qe : Exa Z h0 a2 sT2) (Qc : Fld Z h0 a2 sT0 "coder" "B" (iv 0)) (Qn : Fld Z h0 a2 sT0 "count" "I" (iv 16)) (Qv : Fld Z h0 a2 sT0 "value" "[B" (.ref vv)) (Qa : Arv Z h0 vv kv .byte (16 : Int32) vd (.int 0)) (Ql : (vd.length = 16)) (QE : Exa Z h0 vv "[B") :
    Con l Z (⟨sT2, "toString", "()Ljava/lang/String;"⟩ : MethodName) jdk_67_method_42_code 1 (some (.object sT1)) ({ frames := 4, cells := 2, slots := 20, locals := 59 } : Room) #[(.ref a2)] h0 (Q_tosA Z zC a2 vv kv vd h0) := by
  refine Con.intro (plainFor_of_name pn2) ?_
  intro p e s m below meth c T0 X0 hx hby hml hown0 hnm hret hlk hZ0 e0
  have N0 := Fr.nil Z.heap.size
  refine castGo (g' := mkF m 0 #[.val (.ref a2)] []) (by first | rfl | (simp [entryFrame, mkF, argsToLocals, Value.category]; done)) ?_
  show Go _ _ _ _ (T0.setTop (mkF m 0 #[.val (.ref a2)] []))
  refine g_new X0 hx hZ0 hown0 (wd118 hw) (wd2 hw) (wd3 hw) (by decide) (by decide) e0 (hb hby d_jdk_67m42_0) (q := 3) rfl ?_
  intro T355 h355 b355 g355 X355 e355 E355 A355 D355
  have F355_17 := D355 (Or.inr (wd17 hw)) (ty := (.array .byte)) (by decide)
  have F355_18 := D355 (Or.inr (wd18 hw)) (ty := .byte) (by decide)
  refine g_dup X355 hx (hb hby d_jdk_67m42_3) (q := 4) rfl rfl ?_
  refine aL X355 hx (hb hby d_jdk_67m42_4) (q := 5) rfl rfl rfl ?_
  have gz364 : Z.heap.size ≤ b355 := Nat.le_trans O0.2.1 (Nat.le_of_eq g355.symm)
  have f365 := Qe.ext E355
  have f366 := Qc.ext E355
  have f367 := Qn.ext E355
  have f368 := Qv.ext E355
  have f369 := Qa.ext E355
  have f370 := QE.ext E355
  have f371 := O0.ext E355
  refine g_sp X355 hx hZ0 hown0 (wd119 hw) (wd120 hw) (wd121 hw) rfl (by decide) e355 (Con.back (W := 1) (rm_sisA l Z a0 hw hl zC SC PC hX b355 a2 vv kv vd h355 f371 A355 F355_18 F355_17 gz364 f365 f366 f367 f368 f369 Ql f370) hZ0 (wd121 hw) (wd3 hw) (by decide) (by decide)) (by rw [hml]; rfl) (lenOf pd16 rfl) rfl (Nat.le_of_eq rfl) (hb hby d_jdk_67m42_5) (q := 8) rfl (by decide) (by decide) ?_
  intro v363 T363 L363 X363 Q363
  obtain ⟨c_363, kc_363, rfl, Nq363, K363q, q363_0, q363_1, q363_2, q363_3, q363_4⟩ := Q363
  have N363 := Fr.app N0 Nq363
  show Go _ _ _ _ (T363.setTop (mkF m 8 #[.val (.ref a2)] [(.ref b355)]))
  have K372 : Keep h0 h355 [] := (Keep.refl h0 []).ext E355
  have gh373 : h0.size ≤ b355 := Nat.le_trans (Nat.le_refl _) (Nat.le_of_eq g355.symm)
  have K374 : Keep h0 T363.heap [] := K372.trans K363q (allS (Or.inr gh373) all0)
  have le376 := E355.1
  have gh375 : h0.size ≤ c_363 := Nat.le_trans le376 q363_3
  refine endP X363 hlk (fun h => by rw [hret] at h; cases h) (lastA X363 hx hret rfl rfl rfl (hb hby d_jdk_67m42_8)) ?_ (by decide) (by decide)
  exact ⟨b355, c_363, kc_363, rfl, N363, K374, gh373, q363_0, q363_1, q363_2, gh375, q363_4⟩
theorem d_jdk_29m69_9 : decode jdk_29_method_69_code 9 = .ok (.iload_n 1, 1) := by decide +kernel
def Q_mtB (Z : State) (zC : Int32) (fn : Int32) (h0 : Heap) (v : Option Value) (h : Heap) (L : List Loc) : Prop := v = some (.int fn) ∧ Fr Z.heap.size L ∧ h = h0
theorem rm_mtB (l : Launch) (Z : State) (a0 : Array Value) (hw : HW a0 Z) (hl : l.stackTraces = true) (zC : Int32) (SC : tSC Z zC) (PC : ¬ zC = (0 : Int32)) (hX : ExW a0 Z) (fn : Int32) (h0 : Heap) (O0 : Old Z Z.heap.size h0) (hfn : (fn = (17 : Int32) ∨ fn = (18 : Int32) ∨ fn = (19 : Int32) ∨ fn = (20 : Int32))) :
    Con l Z (⟨"java/lang/Math", "min", "(II)I"⟩ : MethodName) jdk_29_method_69_code 2 (some .int) ({ frames := 0, cells := 0, slots := 0, locals := 0 } : Room) #[(iv 34), (.int fn)] h0 (Q_mtB Z zC fn h0) := by
  refine Con.intro pf3 ?_
  intro p e s m below meth c T0 X0 hx hby hml hown0 hnm hret hlk hZ0 e0
  have N0 := Fr.nil Z.heap.size
  refine castGo (g' := mkF m 0 #[.val (iv 34), .val (.int fn)] []) (by first | rfl | (simp [entryFrame, mkF, argsToLocals, Value.category]; done)) ?_
  show Go _ _ _ _ (T0.setTop (mkF m 0 #[.val (iv 34), .val (.int fn)] []))
  refine iL X0 hx (hb hby d_jdk_29m69_0) (q := 1) rfl rfl ?_
  refine iL X0 hx (hb hby d_jdk_29m69_1) (q := 2) rfl rfl ?_
  refine icY X0 hx (hb hby d_jdk_29m69_2) (q := 9) (by decide) (by decide) (by rcases hfn with rfl | rfl | rfl | rfl <;> decide) ?_
  refine iL X0 hx (hb hby d_jdk_29m69_9) (q := 10) rfl rfl ?_
  refine endP X0 hlk (fun h => by rw [hret] at h; cases h) (lastI X0 hx hret (hb hby d_jdk_29m69_10)) ?_ (by decide) (by decide)
  rw [e0]
  exact ⟨rfl, N0, rfl⟩
theorem d_jdk_65m131_0 : decode jdk_65_method_131_code 0 = .ok (.iload_n 1, 1) := by decide +kernel
theorem d_jdk_65m131_1 : decode jdk_65_method_131_code 1 = .ok (.iload_n 0, 1) := by decide +kernel
theorem d_jdk_65m131_2 : decode jdk_65_method_131_code 2 = .ok (.if_icmp .ge 35, 3) := by decide +kernel
theorem d_jdk_65m131_37 : decode jdk_65_method_131_code 37 = .ok (.return_, 1) := by decide +kernel
def Q_cklB (Z : State) (zC : Int32) (fn : Int32) (h0 : Heap) (v : Option Value) (h : Heap) (L : List Loc) : Prop := v = none ∧ Fr Z.heap.size L ∧ h = h0
theorem rm_cklB (l : Launch) (Z : State) (a0 : Array Value) (hw : HW a0 Z) (hl : l.stackTraces = true) (zC : Int32) (SC : tSC Z zC) (PC : ¬ zC = (0 : Int32)) (hX : ExW a0 Z) (fn : Int32) (h0 : Heap) (O0 : Old Z Z.heap.size h0) (hfn : (fn = (17 : Int32) ∨ fn = (18 : Int32) ∨ fn = (19 : Int32) ∨ fn = (20 : Int32))) :
    Con l Z (⟨"java/util/Arrays", "checkLength", "(II)V"⟩ : MethodName) jdk_65_method_131_code 2 none ({ frames := 0, cells := 0, slots := 0, locals := 0 } : Room) #[(iv 0), (.int fn)] h0 (Q_cklB Z zC fn h0) := by
  refine Con.intro (plainFor_of_name pn4) ?_
  intro p e s m below meth c T0 X0 hx hby hml hown0 hnm hret hlk hZ0 e0
  have N0 := Fr.nil Z.heap.size
  refine castGo (g' := mkF m 0 #[.val (iv 0), .val (.int fn)] []) (by first | rfl | (simp [entryFrame, mkF, argsToLocals, Value.category]; done)) ?_
  show Go _ _ _ _ (T0.setTop (mkF m 0 #[.val (iv 0), .val (.int fn)] []))
  refine iL X0 hx (hb hby d_jdk_65m131_0) (q := 1) rfl rfl ?_
  refine iL X0 hx (hb hby d_jdk_65m131_1) (q := 2) rfl rfl ?_
  refine icY X0 hx (hb hby d_jdk_65m131_2) (q := 37) (by decide) (by decide) (by rcases hfn with rfl | rfl | rfl | rfl <;> decide) ?_
  refine endP X0 hlk (fun _ => rfl) (lastV X0 hx hret (hb hby d_jdk_65m131_37)) ?_ (by decide) (by decide)
  rw [e0]
  exact ⟨rfl, N0, rfl⟩
theorem d_jdk_65m133_0 : decode jdk_65_method_133_code 0 = .ok (.iload_n 1, 1) := by decide +kernel
theorem d_jdk_65m133_1 : decode jdk_65_method_133_code 1 = .ok (.iload_n 2, 1) := by decide +kernel
theorem d_jdk_65m133_2 : decode jdk_65_method_133_code 2 = .ok (.invokestatic 343, 3) := by decide +kernel
theorem wd260 {a0 : Array Value} {Z : State} (hw : HW a0 Z) : ((Jvm.Cond.code ({ cls := "java/util/Arrays", name := "checkLength", desc := "(II)V" } : Jvm.MethodName) jdk_65_method_131_code (2 : Nat) (Option.none : Option Jvm.ClassFile.FieldType)) : Jvm.Cond).before a0 Z = true := hw _ (List.mem_of_getElem? (i := 260) rfl)
theorem pd17 : parseMethodDescriptor "(II)V" = some ⟨[.int, .int], none⟩ := by decide +kernel
theorem wd258 {a0 : Array Value} {Z : State} (hw : HW a0 Z) : ((Jvm.Cond.methodLink "java/util/Arrays" (343 : Nat) ({ cls := "java/util/Arrays", name := "checkLength", desc := "(II)V" } : Jvm.MethodName)) : Jvm.Cond).before a0 Z = true := hw _ (List.mem_of_getElem? (i := 258) rfl)
theorem wd259 {a0 : Array Value} {Z : State} (hw : HW a0 Z) : ((Jvm.Cond.static ({ cls := "java/util/Arrays", name := "checkLength", desc := "(II)V" } : Jvm.MethodName)) : Jvm.Cond).before a0 Z = true := hw _ (List.mem_of_getElem? (i := 259) rfl)
theorem d_jdk_65m133_5 : decode jdk_65_method_133_code 5 = .ok (.iload_n 2, 1) := by decide +kernel
theorem d_jdk_65m133_6 : decode jdk_65_method_133_code 6 = .ok (.iload_n 1, 1) := by decide +kernel
theorem d_jdk_65m133_7 : decode jdk_65_method_133_code 7 = .ok (.isub, 1) := by decide +kernel
theorem d_jdk_65m133_8 : decode jdk_65_method_133_code 8 = .ok (.istore_n 3, 1) := by decide +kernel
theorem d_jdk_65m133_9 : decode jdk_65_method_133_code 9 = .ok (.iload_n 3, 1) := by decide +kernel
theorem d_jdk_65m133_10 : decode jdk_65_method_133_code 10 = .ok (.newarray .byte, 2) := by decide +kernel
theorem d_jdk_65m133_12 : decode jdk_65_method_133_code 12 = .ok (.astore 4, 2) := by decide +kernel
theorem d_jdk_65m133_14 : decode jdk_65_method_133_code 14 = .ok (.aload_n 0, 1) := by decide +kernel
theorem d_jdk_65m133_15 : decode jdk_65_method_133_code 15 = .ok (.iload_n 1, 1) := by decide +kernel
theorem d_jdk_65m133_16 : decode jdk_65_method_133_code 16 = .ok (.aload 4, 2) := by decide +kernel
theorem d_jdk_65m133_18 : decode jdk_65_method_133_code 18 = .ok (.iconst 0, 1) := by decide +kernel
theorem d_jdk_65m133_19 : decode jdk_65_method_133_code 19 = .ok (.aload_n 0, 1) := by decide +kernel
theorem d_jdk_65m133_20 : decode jdk_65_method_133_code 20 = .ok (.arraylength, 1) := by decide +kernel
theorem d_jdk_65m133_21 : decode jdk_65_method_133_code 21 = .ok (.iload_n 1, 1) := by decide +kernel
theorem d_jdk_65m133_22 : decode jdk_65_method_133_code 22 = .ok (.isub, 1) := by decide +kernel
theorem d_jdk_65m133_23 : decode jdk_65_method_133_code 23 = .ok (.iload_n 3, 1) := by decide +kernel
theorem d_jdk_65m133_24 : decode jdk_65_method_133_code 24 = .ok (.invokestatic 304, 3) := by decide +kernel
theorem d_jdk_65m133_27 : decode jdk_65_method_133_code 27 = .ok (.invokestatic 150, 3) := by decide +kernel
theorem d_jdk_65m133_30 : decode jdk_65_method_133_code 30 = .ok (.aload 4, 2) := by decide +kernel
theorem d_jdk_65m133_32 : decode jdk_65_method_133_code 32 = .ok (.areturn, 1) := by decide +kernel
def Q_crbB (Z : State) (zC : Int32) (vv : Addr) (kv : ClassId) (vd : List Value) (fn : Int32) (h0 : Heap) (v : Option Value) (h : Heap) (L : List Loc) : Prop := ∃ (c : Addr), ∃ (kc : ClassId), v = some (.ref c) ∧ Fr Z.heap.size L ∧ Keep h0 h [] ∧ h0.size ≤ c ∧ Arv Z h c kc .byte fn (ins (List.replicate (Int32.toNatClampNeg fn) (iv 0)) (sub vd 0 (Int32.toNatClampNeg fn) (.int 0)) 0 (Int32.toNatClampNeg fn)) (.int 0) ∧ Exa Z h c "[B"
theorem rm_crbB (l : Launch) (Z : State) (a0 : Array Value) (hw : HW a0 Z) (hl : l.stackTraces = true) (zC : Int32) (SC : tSC Z zC) (PC : ¬ zC = (0 : Int32)) (hX : ExW a0 Z) (vv : Addr) (kv : ClassId) (vd : List Value) (fn : Int32) (h0 : Heap) (O0 : Old Z Z.heap.size h0) (Qa : Arv Z h0 vv kv .byte (34 : Int32) vd (.int 0)) (Ql : (vd.length = 34)) (QE : Exa Z h0 vv "[B") (hfn : (fn = (17 : Int32) ∨ fn = (18 : Int32) ∨ fn = (19 : Int32) ∨ fn = (20 : Int32))) :
    Con l Z (⟨"java/util/Arrays", "copyOfRangeByte", "([BII)[B"⟩ : MethodName) jdk_65_method_133_code 5 (some (.array .byte)) ({ frames := 1, cells := 1, slots := 20, locals := 31 } : Room) #[(.ref vv), (iv 0), (.int fn)] h0 (Q_crbB Z zC vv kv vd fn h0) := by
  refine Con.intro (plainFor_of_name pn4) ?_
  intro p e s m below meth c T0 X0 hx hby hml hown0 hnm hret hlk hZ0 e0
  have N0 := Fr.nil Z.heap.size
  refine castGo (g' := mkF m 0 #[.val (.ref vv), .val (iv 0), .val (.int fn), .unset, .unset] []) (by first | rfl | (simp [entryFrame, mkF, argsToLocals, Value.category]; done)) ?_
  show Go _ _ _ _ (T0.setTop (mkF m 0 #[.val (.ref vv), .val (iv 0), .val (.int fn), .unset, .unset] []))
  refine iL X0 hx (hb hby d_jdk_65m133_0) (q := 1) rfl rfl ?_
  refine iL X0 hx (hb hby d_jdk_65m133_1) (q := 2) rfl rfl ?_
  refine g_st X0 hx hZ0 hown0 (wd258 hw) (wd259 hw) (wd145 hw) (wd260 hw) (by decide) e0 (Con.back (W := 0) (rm_cklB l Z a0 hw hl zC SC PC hX fn h0 O0 hfn) hZ0 (wd260 hw) (wd145 hw) (by decide) (by decide)) (by rw [hml]; rfl) (lenOf pd17 rfl) rfl (Nat.le_of_eq rfl) (hb hby d_jdk_65m133_2) (q := 5) rfl (by decide) (by decide) ?_
  intro v377 T377 L377 X377 Q377
  obtain ⟨rfl, Nq377, e377⟩ := Q377
  have N377 := Fr.app N0 Nq377
  show Go _ _ _ _ (T377.setTop (mkF m 5 #[.val (.ref vv), .val (iv 0), .val (.int fn), .unset, .unset] []))
  refine iL X377 hx (hb hby d_jdk_65m133_5) (q := 6) rfl rfl ?_
  refine iL X377 hx (hb hby d_jdk_65m133_6) (q := 7) rfl rfl ?_
  refine g_isub X377 hx (hb hby d_jdk_65m133_7) (q := 8) rfl (z := fn) (sub_zero32 _) ?_
  refine sI X377 hx (hb hby d_jdk_65m133_8) (q := 9) rfl (Ls' := #[.val (.ref vv), .val (iv 0), .val (.int fn), .val (.int fn), .unset]) rfl ?_
  refine iL X377 hx (hb hby d_jdk_65m133_9) (q := 10) rfl rfl ?_
  refine g_newE X377 hx hZ0 (aty := .byte) (wd16 hw) (by rcases hfn with rfl | rfl | rfl | rfl <;> decide) (n := (Int32.toNatClampNeg fn)) rfl (by rcases hfn with rfl | rfl | rfl | rfl <;> decide) (by decide) (by rcases hfn with rfl | rfl | rfl | rfl <;> decide) (ad := "[B") (by decide) e377 (hb hby d_jdk_65m133_10) (q := 12) rfl ?_
  intro T378 h378 k378 b378 g378 X378q e378 E378 V378 G378
  have X378 := X378q.more (Nat.le_refl _) (show _ ≤ 20 from (by rcases hfn with rfl | rfl | rfl | rfl <;> decide))
  have Va378 : Arv Z h378 b378 k378 .byte fn (List.replicate (Int32.toNatClampNeg fn) (iv 0)) (.int 0) := V378
  have Ln378 : (List.replicate (Int32.toNatClampNeg fn) (iv 0)).length = (Int32.toNatClampNeg fn) := List.length_replicate
  refine sAw X378 hx (hb hby d_jdk_65m133_12) (q := 14) rfl rfl (Ls' := #[.val (.ref vv), .val (iv 0), .val (.int fn), .val (.int fn), .val (.ref b378)]) rfl ?_
  refine aL X378 hx (hb hby d_jdk_65m133_14) (q := 15) rfl rfl rfl ?_
  refine iL X378 hx (hb hby d_jdk_65m133_15) (q := 16) rfl rfl ?_
  refine aLw X378 hx (hb hby d_jdk_65m133_16) (q := 18) rfl rfl rfl ?_
  refine cI X378 hx (hb hby d_jdk_65m133_18) (q := 19) rfl (z := (0 : Int32)) rfl ?_
  refine aL X378 hx (hb hby d_jdk_65m133_19) (q := 20) rfl rfl rfl ?_
  have f379 := Qa.ext E378
  refine g_len X378 hx hZ0 f379 e378 (hb hby d_jdk_65m133_20) (q := 21) rfl ?_
  refine iL X378 hx (hb hby d_jdk_65m133_21) (q := 22) rfl rfl ?_
  refine g_isub X378 hx (hb hby d_jdk_65m133_22) (q := 23) rfl (z := (34 : Int32)) (by decide) ?_
  refine iL X378 hx (hb hby d_jdk_65m133_23) (q := 24) rfl rfl ?_
  have f381 := O0.ext E378
  refine g_st X378 hx hZ0 hown0 (wd251 hw) (wd252 hw) (wd244 hw) (wd253 hw) (by decide) e378 (Con.back (W := 4) (rm_mtB l Z a0 hw hl zC SC PC hX fn h378 f381 hfn) hZ0 (wd253 hw) (wd244 hw) (by decide) (by decide)) (by rw [hml]; rfl) (lenOf pd8 rfl) rfl (Nat.le_of_eq rfl) (hb hby d_jdk_65m133_24) (q := 27) rfl (by decide) (by decide) ?_
  intro v380 T380 L380 X380 Q380
  obtain ⟨rfl, Nq380, e380⟩ := Q380
  have N380 := Fr.app N377 Nq380
  show Go _ _ _ _ (T380.setTop (mkF m 27 #[.val (.ref vv), .val (iv 0), .val (.int fn), .val (.int fn), .val (.ref b378)] [(.int fn), (iv 0), (.ref b378), (iv 0), (.ref vv)]))
  have gz383 : Z.heap.size ≤ b378 := Nat.le_trans O0.2.1 (Nat.le_of_eq g378.symm)
  refine g_cp X380 hx hZ0 hown0 (wd254 hw) (wd96 hw) (wd94 hw) (wd95 hw) (us := (sub vd 0 (Int32.toNatClampNeg fn) (.int 0))) f379 Va378 (Or.inl ⟨rfl, rfl⟩) (by decide) (by decide) (by rcases hfn with rfl | rfl | rfl | rfl <;> decide) (by rcases hfn with rfl | rfl | rfl | rfl <;> decide) (by rcases hfn with rfl | rfl | rfl | rfl <;> decide) rfl (by rw [Ln378]; exact (show 0 + (Int32.toNatClampNeg fn) ≤ (Int32.toNatClampNeg fn) from (by rcases hfn with rfl | rfl | rfl | rfl <;> decide))) N380 gz383 (by rw [hml]; rfl) (by decide) (W := 0) (Nat.le_of_eq rfl) (by decide) e380 (hb hby d_jdk_65m133_27) (q := 30) rfl ?_
  intro T382 h382 L382 X382 e382 N382 K382q V382
  have Va382 : Arv Z h382 b378 k378 .byte fn (ins (List.replicate (Int32.toNatClampNeg fn) (iv 0)) (sub vd 0 (Int32.toNatClampNeg fn) (.int 0)) 0 (Int32.toNatClampNeg fn)) (.int 0) := V382
  have Ln382 : (ins (List.replicate (Int32.toNatClampNeg fn) (iv 0)) (sub vd 0 (Int32.toNatClampNeg fn) (.int 0)) 0 (Int32.toNatClampNeg fn)).length = (Int32.toNatClampNeg fn) := (ins_len sub_len (by rw [Ln378]; exact (show 0 + (Int32.toNatClampNeg fn) ≤ (Int32.toNatClampNeg fn) from (by rcases hfn with rfl | rfl | rfl | rfl <;> decide)))).trans Ln378
  refine aLw X382 hx (hb hby d_jdk_65m133_30) (q := 32) rfl rfl rfl ?_
  have K384 : Keep h0 h378 [] := (Keep.refl h0 []).ext E378
  have gh385 : h0.size ≤ b378 := Nat.le_trans (Nat.le_refl _) (Nat.le_of_eq g378.symm)
  have K386 : Keep h0 h382 [] := K384.trans K382q (allS (Or.inr gh385) all0)
  have f387 := G378.keep K382q
  refine endP X382 hlk (fun h => by rw [hret] at h; cases h) (lastA X382 hx hret rfl rfl rfl (hb hby d_jdk_65m133_32)) ?_ (by decide) (by decide)
  rw [e382]
  exact ⟨b378, k378, rfl, N382, K386, gh385, Va382, f387⟩
theorem d_jdk_65m132_10 : decode jdk_65_method_132_code 10 = .ok (.aload_n 0, 1) := by decide +kernel
theorem d_jdk_65m132_11 : decode jdk_65_method_132_code 11 = .ok (.iload_n 1, 1) := by decide +kernel
theorem d_jdk_65m132_12 : decode jdk_65_method_132_code 12 = .ok (.iload_n 2, 1) := by decide +kernel
theorem d_jdk_65m132_13 : decode jdk_65_method_132_code 13 = .ok (.invokestatic 339, 3) := by decide +kernel
theorem wd257 {a0 : Array Value} {Z : State} (hw : HW a0 Z) : ((Jvm.Cond.code ({ cls := "java/util/Arrays", name := "copyOfRangeByte", desc := "([BII)[B" } : Jvm.MethodName) jdk_65_method_133_code (5 : Nat) (Option.some (Jvm.ClassFile.FieldType.array Jvm.ClassFile.FieldType.byte))) : Jvm.Cond).before a0 Z = true := hw _ (List.mem_of_getElem? (i := 257) rfl)
theorem wd255 {a0 : Array Value} {Z : State} (hw : HW a0 Z) : ((Jvm.Cond.methodLink "java/util/Arrays" (339 : Nat) ({ cls := "java/util/Arrays", name := "copyOfRangeByte", desc := "([BII)[B" } : Jvm.MethodName)) : Jvm.Cond).before a0 Z = true := hw _ (List.mem_of_getElem? (i := 255) rfl)
theorem wd256 {a0 : Array Value} {Z : State} (hw : HW a0 Z) : ((Jvm.Cond.static ({ cls := "java/util/Arrays", name := "copyOfRangeByte", desc := "([BII)[B" } : Jvm.MethodName)) : Jvm.Cond).before a0 Z = true := hw _ (List.mem_of_getElem? (i := 256) rfl)
theorem d_jdk_65m132_16 : decode jdk_65_method_132_code 16 = .ok (.areturn, 1) := by decide +kernel
def Q_corB (Z : State) (zC : Int32) (vv : Addr) (kv : ClassId) (vd : List Value) (fn : Int32) (h0 : Heap) (v : Option Value) (h : Heap) (L : List Loc) : Prop := ∃ (c : Addr), ∃ (kc : ClassId), v = some (.ref c) ∧ Fr Z.heap.size L ∧ Keep h0 h [] ∧ h0.size ≤ c ∧ Arv Z h c kc .byte fn (ins (List.replicate (Int32.toNatClampNeg fn) (iv 0)) (sub vd 0 (Int32.toNatClampNeg fn) (.int 0)) 0 (Int32.toNatClampNeg fn)) (.int 0) ∧ Exa Z h c "[B"
theorem rm_corB (l : Launch) (Z : State) (a0 : Array Value) (hw : HW a0 Z) (hl : l.stackTraces = true) (zC : Int32) (SC : tSC Z zC) (PC : ¬ zC = (0 : Int32)) (hX : ExW a0 Z) (vv : Addr) (kv : ClassId) (vd : List Value) (fn : Int32) (h0 : Heap) (O0 : Old Z Z.heap.size h0) (Qa : Arv Z h0 vv kv .byte (34 : Int32) vd (.int 0)) (Ql : (vd.length = 34)) (QE : Exa Z h0 vv "[B") (hfn : (fn = (17 : Int32) ∨ fn = (18 : Int32) ∨ fn = (19 : Int32) ∨ fn = (20 : Int32))) :
    Con l Z (⟨"java/util/Arrays", "copyOfRange", "([BII)[B"⟩ : MethodName) jdk_65_method_132_code 3 (some (.array .byte)) ({ frames := 2, cells := 1, slots := 20, locals := 47 } : Room) #[(.ref vv), (iv 0), (.int fn)] h0 (Q_corB Z zC vv kv vd fn h0) := by
  refine Con.intro (plainFor_of_name pn4) ?_
  intro p e s m below meth c T0 X0 hx hby hml hown0 hnm hret hlk hZ0 e0
  have N0 := Fr.nil Z.heap.size
  refine castGo (g' := mkF m 0 #[.val (.ref vv), .val (iv 0), .val (.int fn)] []) (by first | rfl | (simp [entryFrame, mkF, argsToLocals, Value.category]; done)) ?_
  show Go _ _ _ _ (T0.setTop (mkF m 0 #[.val (.ref vv), .val (iv 0), .val (.int fn)] []))
  refine iL X0 hx (hb hby d_jdk_65m132_0) (q := 1) rfl rfl ?_
  refine ifN X0 hx (hb hby d_jdk_65m132_1) (q := 4) rfl (by decide) ?_
  refine iL X0 hx (hb hby d_jdk_65m132_4) (q := 5) rfl rfl ?_
  refine aL X0 hx (hb hby d_jdk_65m132_5) (q := 6) rfl rfl rfl ?_
  refine g_len X0 hx hZ0 Qa e0 (hb hby d_jdk_65m132_6) (q := 7) rfl ?_
  refine icN X0 hx (hb hby d_jdk_65m132_7) (q := 10) rfl (by rcases hfn with rfl | rfl | rfl | rfl <;> decide) ?_
  refine aL X0 hx (hb hby d_jdk_65m132_10) (q := 11) rfl rfl rfl ?_
  refine iL X0 hx (hb hby d_jdk_65m132_11) (q := 12) rfl rfl ?_
  refine iL X0 hx (hb hby d_jdk_65m132_12) (q := 13) rfl rfl ?_
  refine g_st X0 hx hZ0 hown0 (wd255 hw) (wd256 hw) (wd145 hw) (wd257 hw) (by decide) e0 (Con.back (W := 0) (rm_crbB l Z a0 hw hl zC SC PC hX vv kv vd fn h0 O0 Qa Ql QE hfn) hZ0 (wd257 hw) (wd145 hw) (by decide) (by decide)) (by rw [hml]; rfl) (lenOf pd14 rfl) rfl (Nat.le_of_eq rfl) (hb hby d_jdk_65m132_13) (q := 16) rfl (by decide) (by decide) ?_
  intro v388 T388 L388 X388 Q388
  obtain ⟨c_388, kc_388, rfl, Nq388, K388q, q388_0, q388_1, q388_2⟩ := Q388
  have N388 := Fr.app N0 Nq388
  show Go _ _ _ _ (T388.setTop (mkF m 16 #[.val (.ref vv), .val (iv 0), .val (.int fn)] [(.ref c_388)]))
  have K389 : Keep h0 T388.heap [] := (Keep.refl h0 []).trans K388q all0
  have gh390 : h0.size ≤ c_388 := Nat.le_trans (Nat.le_refl _) q388_0
  refine endP X388 hlk (fun h => by rw [hret] at h; cases h) (lastA X388 hx hret rfl rfl rfl (hb hby d_jdk_65m132_16)) ?_ (by decide) (by decide)
  exact ⟨c_388, kc_388, rfl, N388, K389, gh390, q388_1, q388_2⟩
def Q_siaB (Z : State) (zC : Int32) (a1 : Addr) (a2 : Addr) (vv : Addr) (kv : ClassId) (vd : List Value) (fn : Int32) (h0 : Heap) (v : Option Value) (h : Heap) (L : List Loc) : Prop := ∃ (c : Addr), ∃ (kc : ClassId), v = none ∧ Fr Z.heap.size L ∧ Keep h0 h [a1] ∧ Exa Z h a1 sT1 ∧ Fld Z h a1 sT1 "coder" "B" (iv 0) ∧ Fld Z h a1 sT1 "value" "[B" (.ref c) ∧ h0.size ≤ c ∧ Arv Z h c kc .byte fn (ins (List.replicate (Int32.toNatClampNeg fn) (iv 0)) (sub vd 0 (Int32.toNatClampNeg fn) (.int 0)) 0 (Int32.toNatClampNeg fn)) (.int 0)
theorem rm_siaB (l : Launch) (Z : State) (a0 : Array Value) (hw : HW a0 Z) (hl : l.stackTraces = true) (zC : Int32) (SC : tSC Z zC) (PC : ¬ zC = (0 : Int32)) (hX : ExW a0 Z) (a1 : Addr) (a2 : Addr) (vv : Addr) (kv : ClassId) (vd : List Value) (fn : Int32) (h0 : Heap) (O0 : Old Z Z.heap.size h0) (Pe : Exa Z h0 a1 sT1) (Pc : Fld Z h0 a1 sT1 "coder" "B" (iv 0)) (Pv : Fld Z h0 a1 sT1 "value" "[B" .null) (Pz : Z.heap.size ≤ a1) (Qe : Exa Z h0 a2 sT2) (Qc : Fld Z h0 a2 sT0 "coder" "B" (iv 0)) (Qn : Fld Z h0 a2 sT0 "count" "I" (.int fn)) (Qv : Fld Z h0 a2 sT0 "value" "[B" (.ref vv)) (Qa : Arv Z h0 vv kv .byte (34 : Int32) vd (.int 0)) (Ql : (vd.length = 34)) (QE : Exa Z h0 vv "[B") (hfn : (fn = (17 : Int32) ∨ fn = (18 : Int32) ∨ fn = (19 : Int32) ∨ fn = (20 : Int32))) :
    Con l Z (⟨sT1, "<init>", "(Ljava/lang/AbstractStringBuilder;Ljava/lang/Void;)V"⟩ : MethodName) jdk_42_method_150_code 5 none ({ frames := 3, cells := 1, slots := 20, locals := 62 } : Room) #[(.ref a1), (.ref a2), .null] h0 (Q_siaB Z zC a1 a2 vv kv vd fn h0) := by
  refine Con.intro (plainFor_of_name pn0) ?_
  intro p e s m below meth c T0 X0 hx hby hml hown0 hnm hret hlk hZ0 e0
  have N0 := Fr.nil Z.heap.size
  refine castGo (g' := mkF m 0 #[.val (.ref a1), .val (.ref a2), .val .null, .unset, .unset] []) (by first | rfl | (simp [entryFrame, mkF, argsToLocals, Value.category]; done)) ?_
  show Go _ _ _ _ (T0.setTop (mkF m 0 #[.val (.ref a1), .val (.ref a2), .val .null, .unset, .unset] []))
  refine aL X0 hx (hb hby d_jdk_42m150_0) (q := 1) rfl rfl rfl ?_
  refine g_init0 X0 hx hZ0 hown0 (wd12 hw) (wd13 hw) (wd14 hw) (by rw [hml]; rfl) (by decide) (W := 0) (Nat.le_of_eq rfl) (by decide) e0 (hb hby d_jdk_42m150_1) (q := 4) rfl ?_
  intro T391 X391 e391
  refine aL X391 hx (hb hby d_jdk_42m150_4) (q := 5) rfl rfl rfl ?_
  refine g_vi X391 hx hZ0 hown0 (wd125 hw) (wd126 hw) (notFace_of_selects (args := #[]) (mvT hZ0 (wd128 hw))) (wd128 hw) (wd127 hw) (by decide) Qe e391 (Con.back (W := 0) (rm_gval l Z a0 hw hl zC SC PC hX a2 vv h0 O0 Qv) hZ0 (wd129 hw) (wd40 hw) (by decide) (by decide)) (by rw [hml]; rfl) (lenOf pd12 rfl) rfl (Nat.le_of_eq rfl) (hb hby d_jdk_42m150_5) (q := 8) rfl (by decide) (by decide) ?_
  intro v392 T392 L392 X392 Q392
  obtain ⟨rfl, Nq392, e392⟩ := Q392
  have N392 := Fr.app N0 Nq392
  show Go _ _ _ _ (T392.setTop (mkF m 8 #[.val (.ref a1), .val (.ref a2), .val .null, .unset, .unset] [(.ref vv)]))
  refine sA X392 hx (hb hby d_jdk_42m150_8) (q := 9) rfl rfl (Ls' := #[.val (.ref a1), .val (.ref a2), .val .null, .val (.ref vv), .unset]) rfl ?_
  refine aL X392 hx (hb hby d_jdk_42m150_9) (q := 10) rfl rfl rfl ?_
  refine g_vi X392 hx hZ0 hown0 (wd130 hw) (wd131 hw) (nf_of (as := #[]) (mvT hZ0 (wd75 hw)) rfl) (wd133 hw) (wd134 hw) (by decide) Qe e392 (Con.back (W := 0) (rm_sbl l Z a0 hw hl zC SC PC hX a2 fn h0 O0 Qe Qn) hZ0 (wd135 hw) (wd32 hw) (by decide) (by decide)) (by rw [hml]; rfl) (lenOf pd5 rfl) rfl (Nat.le_of_eq rfl) (hb hby d_jdk_42m150_10) (q := 13) rfl (by decide) (by decide) ?_
  intro v393 T393 L393 X393 Q393
  obtain ⟨rfl, Nq393, e393⟩ := Q393
  have N393 := Fr.app N392 Nq393
  show Go _ _ _ _ (T393.setTop (mkF m 13 #[.val (.ref a1), .val (.ref a2), .val .null, .val (.ref vv), .unset] [(.int fn)]))
  refine sIw X393 hx (hb hby d_jdk_42m150_13) (q := 15) rfl (Ls' := #[.val (.ref a1), .val (.ref a2), .val .null, .val (.ref vv), .val (.int fn)]) rfl ?_
  refine aL X393 hx (hb hby d_jdk_42m150_15) (q := 16) rfl rfl rfl ?_
  refine g_vi X393 hx hZ0 hown0 (wd138 hw) (wd139 hw) (notFace_of_selects (args := #[]) (mvT hZ0 (wd141 hw))) (wd141 hw) (wd140 hw) (by decide) Qe e393 (Con.back (W := 0) (rm_isla l Z a0 hw hl zC SC PC hX a2 h0 O0 Qc) hZ0 (wd142 hw) (wd40 hw) (by decide) (by decide)) (by rw [hml]; rfl) (lenOf pd13 rfl) rfl (Nat.le_of_eq rfl) (hb hby d_jdk_42m150_16) (q := 19) rfl (by decide) (by decide) ?_
  intro v394 T394 L394 X394 Q394
  obtain ⟨rfl, Nq394, e394⟩ := Q394
  have N394 := Fr.app N393 Nq394
  show Go _ _ _ _ (T394.setTop (mkF m 19 #[.val (.ref a1), .val (.ref a2), .val .null, .val (.ref vv), .val (.int fn)] [(iv 1)]))
  refine ifN X394 hx (hb hby d_jdk_42m150_19) (q := 22) rfl (by decide) ?_
  refine aL X394 hx (hb hby d_jdk_42m150_22) (q := 23) rfl rfl rfl ?_
  refine cI X394 hx (hb hby d_jdk_42m150_23) (q := 24) rfl (z := (0 : Int32)) rfl ?_
  refine g_putF X394 hx hZ0 hown0 (host := "") (Or.inl (wd22 hw)) Via.refl Pc Pe (Or.inr ⟨(wd18 hw), rfl, hnm⟩) (wd2 hw) (ty := .byte) (by decide) rfl rfl e394 (hb hby d_jdk_42m150_24) (q := 27) rfl ?_
  intro T395 h395 X395 e395 W395
  have N395 := Fr.snoc X395 N394 Pz
  have Fw395 : Fld Z h395 a1 sT1 "coder" "B" (iv 0) := Pc.same W395
  refine aL X395 hx (hb hby d_jdk_42m150_27) (q := 28) rfl rfl rfl ?_
  refine aL X395 hx (hb hby d_jdk_42m150_28) (q := 29) rfl rfl rfl ?_
  refine cI X395 hx (hb hby d_jdk_42m150_29) (q := 30) rfl (z := (0 : Int32)) rfl ?_
  refine iLw X395 hx (hb hby d_jdk_42m150_30) (q := 32) rfl rfl ?_
  have ne400 : vv ≠ a1 := (ne_exa QE Pe (by decide))
  have f401 := Qa.other W395 ne400
  have f402 := QE.wr W395
  have f403 := O0.wr W395 Pz
  refine g_st X395 hx hZ0 hown0 (wd143 hw) (wd144 hw) (wd145 hw) (wd146 hw) (by decide) e395 (Con.back (W := 1) (rm_corB l Z a0 hw hl zC SC PC hX vv kv vd fn h395 f403 f401 Ql f402 hfn) hZ0 (wd146 hw) (wd145 hw) (by decide) (by decide)) (by rw [hml]; rfl) (lenOf pd14 rfl) rfl (Nat.le_of_eq rfl) (hb hby d_jdk_42m150_32) (q := 35) rfl (by decide) (by decide) ?_
  intro v399 T399 L399 X399 Q399
  obtain ⟨c_399, kc_399, rfl, Nq399, K399q, q399_0, q399_1, q399_2⟩ := Q399
  have N399 := Fr.app N395 Nq399
  show Go _ _ _ _ (T399.setTop (mkF m 35 #[.val (.ref a1), .val (.ref a2), .val .null, .val (.ref vv), .val (.int fn)] [(.ref c_399), (.ref a1)]))
  have f404 := Pv.other W395 (Or.inr (slot_ne (Or.inr (wd17 hw)) (Or.inr (wd18 hw)) (by decide) (t := (.array .byte)) (t' := .byte) (by decide) (by decide)))
  have f405 := f404.keep K399q nin0
  have f406 := Pe.wr W395
  have f407 := f406.keep K399q
  refine g_putF X399 hx hZ0 hown0 (host := "") (Or.inl (wd21 hw)) Via.refl f405 f407 (Or.inr ⟨(wd17 hw), rfl, hnm⟩) (wd2 hw) (ty := (.array .byte)) (by decide) rfl rfl rfl (hb hby d_jdk_42m150_35) (q := 38) rfl ?_
  intro T408 h408 X408 e408 W408
  have N408 := Fr.snoc X408 N399 Pz
  have Fw408 : Fld Z h408 a1 sT1 "value" "[B" (.ref c_399) := f405.same W408
  refine g_goto X408 hx (hb hby d_jdk_42m150_38) (q := 97) (by decide) (by decide) ?_
  have K409 : Keep h0 h395 [a1] := (Keep.refl h0 [a1]).wr W395 (Or.inl (by simp))
  have K410 : Keep h0 T399.heap [a1] := K409.trans K399q all0
  have K411 : Keep h0 h408 [a1] := K410.wr W408 (Or.inl (by simp))
  have f412 := f407.wr W408
  have f413 := Fw395.keep K399q nin0
  have f414 := f413.other W408 (Or.inr (slot_ne (Or.inr (wd18 hw)) (Or.inr (wd17 hw)) (by decide) (t := .byte) (t' := (.array .byte)) (by decide) (by decide)))
  have le416 := (Nat.le_of_eq (Wr.size W395).symm)
  have gh415 : h0.size ≤ c_399 := Nat.le_trans le416 q399_0
  have ne417 : c_399 ≠ a1 := (Nat.ne_of_gt (Nat.lt_of_lt_of_le (Nat.lt_of_lt_of_le Pe.lt le416) q399_0))
  have f418 := q399_1.other W408 ne417
  refine endP X408 hlk (fun _ => rfl) (lastV X408 hx hret (hb hby d_jdk_42m150_97)) ?_ (by decide) (by decide)
  rw [e408]
  exact ⟨c_399, kc_399, rfl, N408, K411, f412, f414, Fw408, gh415, f418⟩
def Q_sisB (Z : State) (zC : Int32) (a1 : Addr) (a2 : Addr) (vv : Addr) (kv : ClassId) (vd : List Value) (fn : Int32) (h0 : Heap) (v : Option Value) (h : Heap) (L : List Loc) : Prop := ∃ (c : Addr), ∃ (kc : ClassId), v = none ∧ Fr Z.heap.size L ∧ Keep h0 h [a1] ∧ Exa Z h a1 sT1 ∧ Fld Z h a1 sT1 "coder" "B" (iv 0) ∧ Fld Z h a1 sT1 "value" "[B" (.ref c) ∧ h0.size ≤ c ∧ Arv Z h c kc .byte fn (ins (List.replicate (Int32.toNatClampNeg fn) (iv 0)) (sub vd 0 (Int32.toNatClampNeg fn) (.int 0)) 0 (Int32.toNatClampNeg fn)) (.int 0)
theorem rm_sisB (l : Launch) (Z : State) (a0 : Array Value) (hw : HW a0 Z) (hl : l.stackTraces = true) (zC : Int32) (SC : tSC Z zC) (PC : ¬ zC = (0 : Int32)) (hX : ExW a0 Z) (a1 : Addr) (a2 : Addr) (vv : Addr) (kv : ClassId) (vd : List Value) (fn : Int32) (h0 : Heap) (O0 : Old Z Z.heap.size h0) (Pe : Exa Z h0 a1 sT1) (Pc : Fld Z h0 a1 sT1 "coder" "B" (iv 0)) (Pv : Fld Z h0 a1 sT1 "value" "[B" .null) (Pz : Z.heap.size ≤ a1) (Qe : Exa Z h0 a2 sT2) (Qc : Fld Z h0 a2 sT0 "coder" "B" (iv 0)) (Qn : Fld Z h0 a2 sT0 "count" "I" (.int fn)) (Qv : Fld Z h0 a2 sT0 "value" "[B" (.ref vv)) (Qa : Arv Z h0 vv kv .byte (34 : Int32) vd (.int 0)) (Ql : (vd.length = 34)) (QE : Exa Z h0 vv "[B") (hfn : (fn = (17 : Int32) ∨ fn = (18 : Int32) ∨ fn = (19 : Int32) ∨ fn = (20 : Int32))) :
    Con l Z (⟨sT1, "<init>", "(Ljava/lang/StringBuilder;)V"⟩ : MethodName) jdk_42_method_53_code 2 none ({ frames := 4, cells := 1, slots := 20, locals := 78 } : Room) #[(.ref a1), (.ref a2)] h0 (Q_sisB Z zC a1 a2 vv kv vd fn h0) := by
  refine Con.intro (plainFor_of_name pn0) ?_
  intro p e s m below meth c T0 X0 hx hby hml hown0 hnm hret hlk hZ0 e0
  have N0 := Fr.nil Z.heap.size
  refine castGo (g' := mkF m 0 #[.val (.ref a1), .val (.ref a2)] []) (by first | rfl | (simp [entryFrame, mkF, argsToLocals, Value.category]; done)) ?_
  show Go _ _ _ _ (T0.setTop (mkF m 0 #[.val (.ref a1), .val (.ref a2)] []))
  refine aL X0 hx (hb hby d_jdk_42m53_0) (q := 1) rfl rfl rfl ?_
  refine aL X0 hx (hb hby d_jdk_42m53_1) (q := 2) rfl rfl rfl ?_
  refine cN X0 hx (hb hby d_jdk_42m53_2) (q := 3) rfl ?_
  refine g_sp X0 hx hZ0 hown0 (wd122 hw) (wd123 hw) (wd124 hw) rfl (by decide) e0 (Con.back (W := 0) (rm_siaB l Z a0 hw hl zC SC PC hX a1 a2 vv kv vd fn h0 O0 Pe Pc Pv Pz Qe Qc Qn Qv Qa Ql QE hfn) hZ0 (wd124 hw) (wd3 hw) (by decide) (by decide)) (by rw [hml]; rfl) (lenOf pd15 rfl) rfl (Nat.le_of_eq rfl) (hb hby d_jdk_42m53_3) (q := 6) rfl (by decide) (by decide) ?_
  intro v419 T419 L419 X419 Q419
  obtain ⟨c_419, kc_419, rfl, Nq419, K419q, q419_0, q419_1, q419_2, q419_3, q419_4⟩ := Q419
  have N419 := Fr.app N0 Nq419
  show Go _ _ _ _ (T419.setTop (mkF m 6 #[.val (.ref a1), .val (.ref a2)] []))
  have K420 : Keep h0 T419.heap [a1] := (Keep.refl h0 [a1]).trans K419q (allS (Or.inl (by simp)) all0)
  have gh421 : h0.size ≤ c_419 := Nat.le_trans (Nat.le_refl _) q419_3
  refine endP X419 hlk (fun _ => rfl) (lastV X419 hx hret (hb hby d_jdk_42m53_6)) ?_ (by decide) (by decide)
  exact ⟨c_419, kc_419, rfl, N419, K420, q419_0, q419_1, q419_2, gh421, q419_4⟩
def Q_tosB (Z : State) (zC : Int32) (a2 : Addr) (vv : Addr) (kv : ClassId) (vd : List Value) (fn : Int32) (h0 : Heap) (v : Option Value) (h : Heap) (L : List Loc) : Prop := ∃ (r : Addr), ∃ (c : Addr), ∃ (kc : ClassId), v = some (.ref r) ∧ Fr Z.heap.size L ∧ Keep h0 h [] ∧ h0.size ≤ r ∧ Exa Z h r sT1 ∧ Fld Z h r sT1 "coder" "B" (iv 0) ∧ Fld Z h r sT1 "value" "[B" (.ref c) ∧ h0.size ≤ c ∧ Arv Z h c kc .byte fn (ins (List.replicate (Int32.toNatClampNeg fn) (iv 0)) (sub vd 0 (Int32.toNatClampNeg fn) (.int 0)) 0 (Int32.toNatClampNeg fn)) (.int 0)
theorem rm_tosB (l : Launch) (Z : State) (a0 : Array Value) (hw : HW a0 Z) (hl : l.stackTraces = true) (zC : Int32) (SC : tSC Z zC) (PC : ¬ zC = (0 : Int32)) (hX : ExW a0 Z) (a2 : Addr) (vv : Addr) (kv : ClassId) (vd : List Value) (fn : Int32) (h0 : Heap) (O0 : Old Z Z.heap.size h0) (Qe : Exa Z h0 a2 sT2) (Qc : Fld Z h0 a2 sT0 "coder" "B" (iv 0)) (Qn : Fld Z h0 a2 sT0 "count" "I" (.int fn)) (Qv : Fld Z h0 a2 sT0 "value" "[B" (.ref vv)) (Qa : Arv Z h0 vv kv .byte (34 : Int32) vd (.int 0)) (Ql : (vd.length = 34)) (QE : Exa Z h0 vv "[B") (hfn : (fn = (17 : Int32) ∨ fn = (18 : Int32) ∨ fn = (19 : Int32) ∨ fn = (20 : Int32))) :
    Con l Z (⟨sT2, "toString", "()Ljava/lang/String;"⟩ : MethodName) jdk_67_method_42_code 1 (some (.object sT1)) ({ frames := 5, cells := 2, slots := 24, locals := 92 } : Room) #[(.ref a2)] h0 (Q_tosB Z zC a2 vv kv vd fn h0) := by
  refine Con.intro (plainFor_of_name pn2) ?_
  intro p e s m below meth c T0 X0 hx hby hml hown0 hnm hret hlk hZ0 e0
  have N0 := Fr.nil Z.heap.size
  refine castGo (g' := mkF m 0 #[.val (.ref a2)] []) (by first | rfl | (simp [entryFrame, mkF, argsToLocals, Value.category]; done)) ?_
  show Go _ _ _ _ (T0.setTop (mkF m 0 #[.val (.ref a2)] []))
  refine g_new X0 hx hZ0 hown0 (wd118 hw) (wd2 hw) (wd3 hw) (by decide) (by decide) e0 (hb hby d_jdk_67m42_0) (q := 3) rfl ?_
  intro T422 h422 b422 g422 X422 e422 E422 A422 D422
  have F422_17 := D422 (Or.inr (wd17 hw)) (ty := (.array .byte)) (by decide)
  have F422_18 := D422 (Or.inr (wd18 hw)) (ty := .byte) (by decide)
  refine g_dup X422 hx (hb hby d_jdk_67m42_3) (q := 4) rfl rfl ?_
  refine aL X422 hx (hb hby d_jdk_67m42_4) (q := 5) rfl rfl rfl ?_
  have gz434 : Z.heap.size ≤ b422 := Nat.le_trans O0.2.1 (Nat.le_of_eq g422.symm)
  have f435 := Qe.ext E422
  have f436 := Qc.ext E422
  have f437 := Qn.ext E422
  have f438 := Qv.ext E422
  have f439 := Qa.ext E422
  have f440 := QE.ext E422
  have f441 := O0.ext E422
  refine g_sp X422 hx hZ0 hown0 (wd119 hw) (wd120 hw) (wd121 hw) rfl (by decide) e422 (Con.back (W := 1) (rm_sisB l Z a0 hw hl zC SC PC hX b422 a2 vv kv vd fn h422 f441 A422 F422_18 F422_17 gz434 f435 f436 f437 f438 f439 Ql f440 hfn) hZ0 (wd121 hw) (wd3 hw) (by decide) (by decide)) (by rw [hml]; rfl) (lenOf pd16 rfl) rfl (Nat.le_of_eq rfl) (hb hby d_jdk_67m42_5) (q := 8) rfl (by decide) (by decide) ?_
  intro v433 T433 L433 X433 Q433
  obtain ⟨c_433, kc_433, rfl, Nq433, K433q, q433_0, q433_1, q433_2, q433_3, q433_4⟩ := Q433
  have N433 := Fr.app N0 Nq433
  show Go _ _ _ _ (T433.setTop (mkF m 8 #[.val (.ref a2)] [(.ref b422)]))
  have K442 : Keep h0 h422 [] := (Keep.refl h0 []).ext E422
  have gh443 : h0.size ≤ b422 := Nat.le_trans (Nat.le_refl _) (Nat.le_of_eq g422.symm)
  have K444 : Keep h0 T433.heap [] := K442.trans K433q (allS (Or.inr gh443) all0)
  have le446 := E422.1
  have gh445 : h0.size ≤ c_433 := Nat.le_trans le446 q433_3
  refine endP X433 hlk (fun h => by rw [hret] at h; cases h) (lastA X433 hx hret rfl rfl rfl (hb hby d_jdk_67m42_8)) ?_ (by decide) (by decide)
  exact ⟨b422, c_433, kc_433, rfl, N433, K444, gh443, q433_0, q433_1, q433_2, gh445, q433_4⟩
theorem byt_int {v : Value} (h : fits .byte v = true) : ∃ x, v = .int x := by
  cases v <;> first | exact ⟨_, rfl⟩ | (simp [fits] at h)
theorem pn7 : plainName "java/lang/StringLatin1" = true := by first | (simp [plainName, overriddenIn]; done) | decide +kernel
theorem d_jdk_43m13_0 : decode jdk_43_method_13_code 0 = .ok (.aload_n 0, 1) := by decide +kernel
theorem d_jdk_43m13_1 : decode jdk_43_method_13_code 1 = .ok (.arraylength, 1) := by decide +kernel
theorem d_jdk_43m13_2 : decode jdk_43_method_13_code 2 = .ok (.aload_n 1, 1) := by decide +kernel
theorem d_jdk_43m13_3 : decode jdk_43_method_13_code 3 = .ok (.arraylength, 1) := by decide +kernel
theorem d_jdk_43m13_4 : decode jdk_43_method_13_code 4 = .ok (.if_icmp .ne 30, 3) := by decide +kernel
theorem d_jdk_43m13_7 : decode jdk_43_method_13_code 7 = .ok (.iconst 0, 1) := by decide +kernel
theorem d_jdk_43m13_8 : decode jdk_43_method_13_code 8 = .ok (.istore_n 2, 1) := by decide +kernel
theorem d_jdk_43m13_9 : decode jdk_43_method_13_code 9 = .ok (.iload_n 2, 1) := by decide +kernel
theorem d_jdk_43m13_10 : decode jdk_43_method_13_code 10 = .ok (.aload_n 0, 1) := by decide +kernel
theorem d_jdk_43m13_11 : decode jdk_43_method_13_code 11 = .ok (.arraylength, 1) := by decide +kernel
theorem d_jdk_43m13_12 : decode jdk_43_method_13_code 12 = .ok (.if_icmp .ge 20, 3) := by decide +kernel
theorem d_jdk_43m13_15 : decode jdk_43_method_13_code 15 = .ok (.aload_n 0, 1) := by decide +kernel
theorem d_jdk_43m13_16 : decode jdk_43_method_13_code 16 = .ok (.iload_n 2, 1) := by decide +kernel
theorem d_jdk_43m13_17 : decode jdk_43_method_13_code 17 = .ok (.baload, 1) := by decide +kernel
theorem d_jdk_43m13_18 : decode jdk_43_method_13_code 18 = .ok (.aload_n 1, 1) := by decide +kernel
theorem d_jdk_43m13_19 : decode jdk_43_method_13_code 19 = .ok (.iload_n 2, 1) := by decide +kernel
theorem d_jdk_43m13_20 : decode jdk_43_method_13_code 20 = .ok (.baload, 1) := by decide +kernel
theorem d_jdk_43m13_21 : decode jdk_43_method_13_code 21 = .ok (.if_icmp .eq 5, 3) := by decide +kernel
theorem d_jdk_43m13_26 : decode jdk_43_method_13_code 26 = .ok (.iinc 2 1, 3) := by decide +kernel
theorem d_jdk_43m13_29 : decode jdk_43_method_13_code 29 = .ok (.goto (-20), 3) := by decide +kernel
theorem d_jdk_43m13_32 : decode jdk_43_method_13_code 32 = .ok (.iconst 1, 1) := by decide +kernel
theorem d_jdk_43m13_33 : decode jdk_43_method_13_code 33 = .ok (.ireturn, 1) := by decide +kernel
def Q_leq (Z : State) (zC : Int32) (t1 : Addr) (k1 : ClassId) (t2 : Addr) (k2 : ClassId) (z : Int32) (us : List Value) (h0 : Heap) (v : Option Value) (h : Heap) (L : List Loc) : Prop := v = some (iv 1) ∧ Fr Z.heap.size L ∧ h = h0
theorem rm_leq (l : Launch) (Z : State) (a0 : Array Value) (hw : HW a0 Z) (hl : l.stackTraces = true) (zC : Int32) (SC : tSC Z zC) (PC : ¬ zC = (0 : Int32)) (hX : ExW a0 Z) (t1 : Addr) (k1 : ClassId) (t2 : Addr) (k2 : ClassId) (z : Int32) (us : List Value) (h0 : Heap) (O0 : Old Z Z.heap.size h0) (P1 : Arv Z h0 t1 k1 .byte z us (.int 0)) (P2 : Arv Z h0 t2 k2 .byte z us (.int 0)) :
    Con l Z (⟨"java/lang/StringLatin1", "equals", "([B[B)Z"⟩ : MethodName) jdk_43_method_13_code 3 (some .boolean) ({ frames := 0, cells := 0, slots := 0, locals := 0 } : Room) #[(.ref t1), (.ref t2)] h0 (Q_leq Z zC t1 k1 t2 k2 z us h0) := by
  refine Con.intro (plainFor_of_name pn7) ?_
  intro p e s m below meth c T0 X0 hx hby hml hown0 hnm hret hlk hZ0 e0
  have N0 := Fr.nil Z.heap.size
  have z0 : (0 : Int32).toInt = 0 := by decide
  have z1 : (1 : Int32).toInt = 1 := by decide
  have hz0 : ¬ z < 0 := by obtain ⟨_, _, _, _, q, _⟩ := P1; exact q
  have loop : ∀ (n : Nat) (j : Int32), ¬ j < 0 → ¬ z < j → z.toInt - j.toInt = n → Go p.tables e below (PEnd s (Q_leq Z zC t1 k1 t2 k2 z us h0) 0 0) (T0.setTop (mkF m 9 #[.val (.ref t1), .val (.ref t2), .val (.int j)] [])) := by
    intro n
    induction n with
    | zero =>
      intro j a b c1
      have e1 : j = z := Int32.toInt_inj.mp (by omega)
      subst e1
      refine iL X0 hx (hb hby d_jdk_43m13_9) (q := 10) rfl rfl ?_
      refine aL X0 hx (hb hby d_jdk_43m13_10) (q := 11) rfl rfl rfl ?_
      refine g_len X0 hx hZ0 P1 e0 (hb hby d_jdk_43m13_11) (q := 12) rfl ?_
      refine icY X0 hx (hb hby d_jdk_43m13_12) (q := 32) (by decide) (by decide) (by simp [if_icmp.holds]) ?_
      refine cI X0 hx (hb hby d_jdk_43m13_32) (q := 33) rfl (z := (1 : Int32)) rfl ?_
      refine endP X0 hlk (fun h => by rw [hret] at h; cases h) (lastN X0 hx (t := .boolean) (z' := (1 : Int32)) hret (by simp) (by decide) (hb hby d_jdk_43m13_33)) ?_ (by decide) (by decide)
      rw [e0]
      exact ⟨rfl, N0, rfl⟩
    | succ n ih =>
      intro j a b c1
      have lt : j < z := by simp only [Int32.lt_iff_toInt_lt] at *; omega
      have hi : j.toNatClampNeg < z.toNatClampNeg := by
        have r := rng32 z; simp only [Int32.lt_iff_toInt_lt, z0] at *; simp only [Int32.toNatClampNeg]; omega
      obtain ⟨x, ex⟩ : ∃ x, us.getD j.toNatClampNeg (.int 0) = .int x := by
        obtain ⟨cl, _, _, S, _, _, G⟩ := P1
        exact byt_int (G _ (by rw [S]; exact hi))
      refine iL X0 hx (hb hby d_jdk_43m13_9) (q := 10) rfl rfl ?_
      refine aL X0 hx (hb hby d_jdk_43m13_10) (q := 11) rfl rfl rfl ?_
      refine g_len X0 hx hZ0 P1 e0 (hb hby d_jdk_43m13_11) (q := 12) rfl ?_
      refine icN X0 hx (hb hby d_jdk_43m13_12) (q := 15) rfl (by simp only [if_icmp.holds, decide_eq_false_iff_not, Int32.lt_iff_toInt_lt, Int32.le_iff_toInt_le, ge_iff_le] at *; omega) ?_
      refine aL X0 hx (hb hby d_jdk_43m13_15) (q := 16) rfl rfl rfl ?_
      refine iL X0 hx (hb hby d_jdk_43m13_16) (q := 17) rfl rfl ?_
      refine g_ldB X0 hx hZ0 P1 rfl a lt ex e0 (hb hby d_jdk_43m13_17) (q := 18) rfl ?_
      refine aL X0 hx (hb hby d_jdk_43m13_18) (q := 19) rfl rfl rfl ?_
      refine iL X0 hx (hb hby d_jdk_43m13_19) (q := 20) rfl rfl ?_
      refine g_ldB X0 hx hZ0 P2 rfl a lt ex e0 (hb hby d_jdk_43m13_20) (q := 21) rfl ?_
      refine icY X0 hx (hb hby d_jdk_43m13_21) (q := 26) (by decide) (by decide) (teq (rfl : x = x)).1 ?_
      refine g_iinc X0 hx (hb hby d_jdk_43m13_26) (q := 29) rfl rfl (z := j + 1) rfl (Ls' := #[.val (.ref t1), .val (.ref t2), .val (.int (j + 1))]) rfl ?_
      refine g_goto X0 hx (hb hby d_jdk_43m13_29) (q := 9) (by decide) (by decide) ?_
      have q := c_iadd j 1
      have r := rng32 (j + 1)
      have r2 := rng32 z
      simp only [Int32.lt_iff_toInt_lt, z0] at a b lt
      rw [z1] at q
      exact ih (j + 1) (by simp only [Int32.lt_iff_toInt_lt, z0]; omega) (by simp only [Int32.lt_iff_toInt_lt]; omega) (by omega)
  refine castGo (g' := mkF m 0 #[.val (.ref t1), .val (.ref t2), .unset] []) (by first | rfl | (simp [entryFrame, mkF, argsToLocals, Value.category]; done)) ?_
  refine aL X0 hx (hb hby d_jdk_43m13_0) (q := 1) rfl rfl rfl ?_
  refine g_len X0 hx hZ0 P1 e0 (hb hby d_jdk_43m13_1) (q := 2) rfl ?_
  refine aL X0 hx (hb hby d_jdk_43m13_2) (q := 3) rfl rfl rfl ?_
  refine g_len X0 hx hZ0 P2 e0 (hb hby d_jdk_43m13_3) (q := 4) rfl ?_
  refine icN X0 hx (hb hby d_jdk_43m13_4) (q := 7) rfl (by simp [if_icmp.holds]) ?_
  refine cI X0 hx (hb hby d_jdk_43m13_7) (q := 8) rfl (z := (0 : Int32)) rfl ?_
  refine sI X0 hx (hb hby d_jdk_43m13_8) (q := 9) rfl (Ls' := #[.val (.ref t1), .val (.ref t2), .val (.int 0)]) rfl ?_
  simp only [Int32.lt_iff_toInt_lt, z0] at hz0
  exact loop z.toInt.toNat 0 (by decide) (by simp only [Int32.lt_iff_toInt_lt, z0]; omega) (by rw [z0]; omega)
theorem d_jdk_42m66_0 : decode jdk_42_method_66_code 0 = .ok (.aload_n 0, 1) := by decide +kernel
theorem d_jdk_42m66_1 : decode jdk_42_method_66_code 1 = .ok (.aload_n 1, 1) := by decide +kernel
theorem d_jdk_42m66_2 : decode jdk_42_method_66_code 2 = .ok (.if_acmp .ne 5, 3) := by decide +kernel
theorem d_jdk_42m66_7 : decode jdk_42_method_66_code 7 = .ok (.aload_n 1, 1) := by decide +kernel
theorem d_jdk_42m66_8 : decode jdk_42_method_66_code 8 = .ok (.instanceof 10, 3) := by decide +kernel
theorem wd228 {a0 : Array Value} {Z : State} (hw : HW a0 Z) : ((Jvm.Cond.classLink "java/lang/String" (10 : Nat) "java/lang/String") : Jvm.Cond).before a0 Z = true := hw _ (List.mem_of_getElem? (i := 228) rfl)
theorem d_jdk_42m66_11 : decode jdk_42_method_66_code 11 = .ok (.ifCond .eq 43, 3) := by decide +kernel
theorem d_jdk_42m66_14 : decode jdk_42_method_66_code 14 = .ok (.aload_n 1, 1) := by decide +kernel
theorem d_jdk_42m66_15 : decode jdk_42_method_66_code 15 = .ok (.checkcast 10, 3) := by decide +kernel
theorem d_jdk_42m66_18 : decode jdk_42_method_66_code 18 = .ok (.astore_n 2, 1) := by decide +kernel
theorem d_jdk_42m66_19 : decode jdk_42_method_66_code 19 = .ok (.getstatic 38, 3) := by decide +kernel
theorem d_jdk_42m66_22 : decode jdk_42_method_66_code 22 = .ok (.ifCond .eq 14, 3) := by decide +kernel
theorem d_jdk_42m66_25 : decode jdk_42_method_66_code 25 = .ok (.aload_n 0, 1) := by decide +kernel
theorem d_jdk_42m66_26 : decode jdk_42_method_66_code 26 = .ok (.getfield 15, 3) := by decide +kernel
theorem d_jdk_42m66_29 : decode jdk_42_method_66_code 29 = .ok (.aload_n 2, 1) := by decide +kernel
theorem d_jdk_42m66_30 : decode jdk_42_method_66_code 30 = .ok (.getfield 15, 3) := by decide +kernel
theorem d_jdk_42m66_33 : decode jdk_42_method_66_code 33 = .ok (.if_icmp .ne 21, 3) := by decide +kernel
theorem d_jdk_42m66_36 : decode jdk_42_method_66_code 36 = .ok (.aload_n 0, 1) := by decide +kernel
theorem d_jdk_42m66_37 : decode jdk_42_method_66_code 37 = .ok (.getfield 9, 3) := by decide +kernel
theorem d_jdk_42m66_40 : decode jdk_42_method_66_code 40 = .ok (.aload_n 2, 1) := by decide +kernel
theorem d_jdk_42m66_41 : decode jdk_42_method_66_code 41 = .ok (.getfield 9, 3) := by decide +kernel
theorem d_jdk_42m66_44 : decode jdk_42_method_66_code 44 = .ok (.invokestatic 541, 3) := by decide +kernel
theorem wd232 {a0 : Array Value} {Z : State} (hw : HW a0 Z) : ((Jvm.Cond.code ({ cls := "java/lang/StringLatin1", name := "equals", desc := "([B[B)Z" } : Jvm.MethodName) jdk_43_method_13_code (3 : Nat) (Option.some Jvm.ClassFile.FieldType.boolean)) : Jvm.Cond).before a0 Z = true := hw _ (List.mem_of_getElem? (i := 232) rfl)
theorem wd231 {a0 : Array Value} {Z : State} (hw : HW a0 Z) : ((Jvm.Cond.initialized "java/lang/StringLatin1") : Jvm.Cond).before a0 Z = true := hw _ (List.mem_of_getElem? (i := 231) rfl)
theorem pd18 : parseMethodDescriptor "([B[B)Z" = some ⟨[(.array .byte), (.array .byte)], some .boolean⟩ := by decide +kernel
theorem wd229 {a0 : Array Value} {Z : State} (hw : HW a0 Z) : ((Jvm.Cond.methodLink "java/lang/String" (541 : Nat) ({ cls := "java/lang/StringLatin1", name := "equals", desc := "([B[B)Z" } : Jvm.MethodName)) : Jvm.Cond).before a0 Z = true := hw _ (List.mem_of_getElem? (i := 229) rfl)
theorem wd230 {a0 : Array Value} {Z : State} (hw : HW a0 Z) : ((Jvm.Cond.static ({ cls := "java/lang/StringLatin1", name := "equals", desc := "([B[B)Z" } : Jvm.MethodName)) : Jvm.Cond).before a0 Z = true := hw _ (List.mem_of_getElem? (i := 230) rfl)
theorem d_jdk_42m66_47 : decode jdk_42_method_66_code 47 = .ok (.ifCond .eq 7, 3) := by decide +kernel
theorem d_jdk_42m66_50 : decode jdk_42_method_66_code 50 = .ok (.iconst 1, 1) := by decide +kernel
theorem d_jdk_42m66_51 : decode jdk_42_method_66_code 51 = .ok (.goto 4, 3) := by decide +kernel
theorem d_jdk_42m66_55 : decode jdk_42_method_66_code 55 = .ok (.ireturn, 1) := by decide +kernel
def Q_seq (Z : State) (zC : Int32) (a1 : Addr) (t1 : Addr) (k1 : ClassId) (a2 : Addr) (t2 : Addr) (k2 : ClassId) (z : Int32) (us : List Value) (h0 : Heap) (v : Option Value) (h : Heap) (L : List Loc) : Prop := v = some (iv 1) ∧ Fr Z.heap.size L ∧ h = h0
theorem rm_seq (l : Launch) (Z : State) (a0 : Array Value) (hw : HW a0 Z) (hl : l.stackTraces = true) (zC : Int32) (SC : tSC Z zC) (PC : ¬ zC = (0 : Int32)) (hX : ExW a0 Z) (a1 : Addr) (t1 : Addr) (k1 : ClassId) (a2 : Addr) (t2 : Addr) (k2 : ClassId) (z : Int32) (us : List Value) (h0 : Heap) (O0 : Old Z Z.heap.size h0) (pe1 : Exa Z h0 a1 sT1) (pc1 : Fld Z h0 a1 sT1 "coder" "B" (iv 0)) (pv1 : Fld Z h0 a1 sT1 "value" "[B" (.ref t1)) (P1 : Arv Z h0 t1 k1 .byte z us (.int 0)) (pe2 : Exa Z h0 a2 sT1) (pc2 : Fld Z h0 a2 sT1 "coder" "B" (iv 0)) (pv2 : Fld Z h0 a2 sT1 "value" "[B" (.ref t2)) (P2 : Arv Z h0 t2 k2 .byte z us (.int 0)) (ne12 : a1 ≠ a2) :
    Con l Z (⟨sT1, "equals", "(Ljava/lang/Object;)Z"⟩ : MethodName) jdk_42_method_66_code 3 (some .boolean) ({ frames := 1, cells := 0, slots := 0, locals := 14 } : Room) #[(.ref a1), (.ref a2)] h0 (Q_seq Z zC a1 t1 k1 a2 t2 k2 z us h0) := by
  refine Con.intro (plainFor_of_name pn0) ?_
  intro p e s m below meth c T0 X0 hx hby hml hown0 hnm hret hlk hZ0 e0
  have N0 := Fr.nil Z.heap.size
  refine castGo (g' := mkF m 0 #[.val (.ref a1), .val (.ref a2), .unset] []) (by first | rfl | (simp [entryFrame, mkF, argsToLocals, Value.category]; done)) ?_
  show Go _ _ _ _ (T0.setTop (mkF m 0 #[.val (.ref a1), .val (.ref a2), .unset] []))
  refine aL X0 hx (hb hby d_jdk_42m66_0) (q := 1) rfl rfl rfl ?_
  refine aL X0 hx (hb hby d_jdk_42m66_1) (q := 2) rfl rfl rfl ?_
  refine g_acmp X0 hx (hb hby d_jdk_42m66_2) (q := 7) rfl rfl (same := false) (decide_eq_false fun q => ne12 (Value.ref.inj q)) (by decide) (by decide) ?_
  refine aL X0 hx (hb hby d_jdk_42m66_7) (q := 8) rfl rfl rfl ?_
  refine g_insY X0 hx hZ0 hown0 (wd228 hw) (Ins.self pe2) e0 (hb hby d_jdk_42m66_8) (q := 11) rfl ?_
  intro T447 X447 e447
  refine ifN X447 hx (hb hby d_jdk_42m66_11) (q := 14) rfl (by decide) ?_
  refine aL X447 hx (hb hby d_jdk_42m66_14) (q := 15) rfl rfl rfl ?_
  refine g_cast X447 hx hZ0 hown0 (wd228 hw) (Ins.self pe2) e447 (hb hby d_jdk_42m66_15) (q := 18) rfl ?_
  intro T448 X448 e448
  refine sA X448 hx (hb hby d_jdk_42m66_18) (q := 19) rfl rfl (Ls' := #[.val (.ref a1), .val (.ref a2), .val (.ref a2)]) rfl ?_
  refine g_getS X448 hx hZ0 hown0 (host := "") (Or.inl (wd69 hw)) Via.refl (SC.ext O0.2) e448 (hb hby d_jdk_42m66_19) (q := 22) rfl ?_
  intro T449 X449 e449
  refine ifN X449 hx (hb hby d_jdk_42m66_22) (q := 25) rfl ((if0 _ _).trans (feq PC).1) ?_
  refine aL X449 hx (hb hby d_jdk_42m66_25) (q := 26) rfl rfl rfl ?_
  refine g_getF X449 hx hZ0 hown0 (host := "") (Or.inl (wd22 hw)) Via.refl pc1 e449 (hb hby d_jdk_42m66_26) (q := 29) rfl ?_
  intro T450 X450 e450
  refine aL X450 hx (hb hby d_jdk_42m66_29) (q := 30) rfl rfl rfl ?_
  refine g_getF X450 hx hZ0 hown0 (host := "") (Or.inl (wd22 hw)) Via.refl pc2 e450 (hb hby d_jdk_42m66_30) (q := 33) rfl ?_
  intro T451 X451 e451
  refine icN X451 hx (hb hby d_jdk_42m66_33) (q := 36) rfl (by decide) ?_
  refine aL X451 hx (hb hby d_jdk_42m66_36) (q := 37) rfl rfl rfl ?_
  refine g_getF X451 hx hZ0 hown0 (host := "") (Or.inl (wd21 hw)) Via.refl pv1 e451 (hb hby d_jdk_42m66_37) (q := 40) rfl ?_
  intro T452 X452 e452
  refine aL X452 hx (hb hby d_jdk_42m66_40) (q := 41) rfl rfl rfl ?_
  refine g_getF X452 hx hZ0 hown0 (host := "") (Or.inl (wd21 hw)) Via.refl pv2 e452 (hb hby d_jdk_42m66_41) (q := 44) rfl ?_
  intro T453 X453 e453
  refine g_st X453 hx hZ0 hown0 (wd229 hw) (wd230 hw) (wd231 hw) (wd232 hw) (by decide) e453 (Con.back (W := 0) (rm_leq l Z a0 hw hl zC SC PC hX t1 k1 t2 k2 z us h0 O0 P1 P2) hZ0 (wd232 hw) (wd231 hw) (by decide) (by decide)) (by rw [hml]; rfl) (lenOf pd18 rfl) rfl (Nat.le_of_eq rfl) (hb hby d_jdk_42m66_44) (q := 47) rfl (by decide) (by decide) ?_
  intro v454 T454 L454 X454 Q454
  obtain ⟨rfl, Nq454, e454⟩ := Q454
  have N454 := Fr.app N0 Nq454
  show Go _ _ _ _ (T454.setTop (mkF m 47 #[.val (.ref a1), .val (.ref a2), .val (.ref a2)] [(iv 1)]))
  refine ifN X454 hx (hb hby d_jdk_42m66_47) (q := 50) rfl (by decide) ?_
  refine cI X454 hx (hb hby d_jdk_42m66_50) (q := 51) rfl (z := (1 : Int32)) rfl ?_
  refine g_goto X454 hx (hb hby d_jdk_42m66_51) (q := 55) (by decide) (by decide) ?_
  refine endP X454 hlk (fun h => by rw [hret] at h; cases h) (lastN X454 hx (t := .boolean) (z' := (1 : Int32)) hret (by simp) (by decide) (hb hby d_jdk_42m66_55)) ?_ (by decide) (by decide)
  rw [e454]
  exact ⟨rfl, N454, rfl⟩
theorem d_jdk_42m126_0 : decode jdk_42_method_126_code 0 = .ok (.aload_n 0, 1) := by decide +kernel
theorem d_jdk_42m126_1 : decode jdk_42_method_126_code 1 = .ok (.areturn, 1) := by decide +kernel
def Q_tost (Z : State) (zC : Int32) (a1 : Addr) (h0 : Heap) (v : Option Value) (h : Heap) (L : List Loc) : Prop := v = some (.ref a1) ∧ Fr Z.heap.size L ∧ h = h0
theorem rm_tost (l : Launch) (Z : State) (a0 : Array Value) (hw : HW a0 Z) (hl : l.stackTraces = true) (zC : Int32) (SC : tSC Z zC) (PC : ¬ zC = (0 : Int32)) (hX : ExW a0 Z) (a1 : Addr) (h0 : Heap) (O0 : Old Z Z.heap.size h0)  :
    Con l Z (⟨sT1, "toString", "()Ljava/lang/String;"⟩ : MethodName) jdk_42_method_126_code 1 (some (.object sT1)) ({ frames := 0, cells := 0, slots := 0, locals := 0 } : Room) #[(.ref a1)] h0 (Q_tost Z zC a1 h0) := by
  refine Con.intro (plainFor_of_name pn0) ?_
  intro p e s m below meth c T0 X0 hx hby hml hown0 hnm hret hlk hZ0 e0
  have N0 := Fr.nil Z.heap.size
  refine castGo (g' := mkF m 0 #[.val (.ref a1)] []) (by first | rfl | (simp [entryFrame, mkF, argsToLocals, Value.category]; done)) ?_
  show Go _ _ _ _ (T0.setTop (mkF m 0 #[.val (.ref a1)] []))
  refine aL X0 hx (hb hby d_jdk_42m126_0) (q := 1) rfl rfl rfl ?_
  refine endP X0 hlk (fun h => by rw [hret] at h; cases h) (lastA X0 hx hret rfl rfl rfl (hb hby d_jdk_42m126_1)) ?_ (by decide) (by decide)
  rw [e0]
  exact ⟨rfl, N0, rfl⟩
theorem d_jdk_42m133_0 : decode jdk_42_method_133_code 0 = .ok (.aload_n 0, 1) := by decide +kernel
theorem d_jdk_42m133_1 : decode jdk_42_method_133_code 1 = .ok (.ifnonnull 9, 3) := by decide +kernel
theorem d_jdk_42m133_10 : decode jdk_42_method_133_code 10 = .ok (.aload_n 0, 1) := by decide +kernel
theorem d_jdk_42m133_11 : decode jdk_42_method_133_code 11 = .ok (.invokevirtual 1007, 3) := by decide +kernel
theorem wd110 {a0 : Array Value} {Z : State} (hw : HW a0 Z) : ((Jvm.Cond.code ({ cls := "java/lang/String", name := "toString", desc := "()Ljava/lang/String;" } : Jvm.MethodName) jdk_42_method_126_code (1 : Nat) (Option.some (Jvm.ClassFile.FieldType.object "java/lang/String"))) : Jvm.Cond).before a0 Z = true := hw _ (List.mem_of_getElem? (i := 110) rfl)
theorem pd19 : parseMethodDescriptor "()Ljava/lang/String;" = some ⟨[], some (.object "java/lang/String")⟩ := by decide +kernel
theorem wd108 {a0 : Array Value} {Z : State} (hw : HW a0 Z) : ((Jvm.Cond.selects "java/lang/String" ({ cls := "java/lang/Object", name := "toString", desc := "()Ljava/lang/String;" } : Jvm.MethodName) ({ cls := "java/lang/String", name := "toString", desc := "()Ljava/lang/String;" } : Jvm.MethodName)) : Jvm.Cond).before a0 Z = true := hw _ (List.mem_of_getElem? (i := 108) rfl)
theorem wd105 {a0 : Array Value} {Z : State} (hw : HW a0 Z) : ((Jvm.Cond.methodLink "java/lang/String" (1007 : Nat) ({ cls := "java/lang/Object", name := "toString", desc := "()Ljava/lang/String;" } : Jvm.MethodName)) : Jvm.Cond).before a0 Z = true := hw _ (List.mem_of_getElem? (i := 105) rfl)
theorem wd106 {a0 : Array Value} {Z : State} (hw : HW a0 Z) : ((Jvm.Cond.declares ({ cls := "java/lang/Object", name := "toString", desc := "()Ljava/lang/String;" } : Jvm.MethodName)) : Jvm.Cond).before a0 Z = true := hw _ (List.mem_of_getElem? (i := 106) rfl)
theorem wd109 {a0 : Array Value} {Z : State} (hw : HW a0 Z) : ((Jvm.Cond.instanceMethod ({ cls := "java/lang/String", name := "toString", desc := "()Ljava/lang/String;" } : Jvm.MethodName)) : Jvm.Cond).before a0 Z = true := hw _ (List.mem_of_getElem? (i := 109) rfl)
theorem d_jdk_42m133_14 : decode jdk_42_method_133_code 14 = .ok (.areturn, 1) := by decide +kernel
def Q_vo (Z : State) (zC : Int32) (a1 : Addr) (h0 : Heap) (v : Option Value) (h : Heap) (L : List Loc) : Prop := v = some (.ref a1) ∧ Fr Z.heap.size L ∧ h = h0
theorem rm_vo (l : Launch) (Z : State) (a0 : Array Value) (hw : HW a0 Z) (hl : l.stackTraces = true) (zC : Int32) (SC : tSC Z zC) (PC : ¬ zC = (0 : Int32)) (hX : ExW a0 Z) (a1 : Addr) (h0 : Heap) (O0 : Old Z Z.heap.size h0) (P1 : Exa Z h0 a1 sT1) :
    Con l Z (⟨sT1, "valueOf", "(Ljava/lang/Object;)Ljava/lang/String;"⟩ : MethodName) jdk_42_method_133_code 1 (some (.object sT1)) ({ frames := 1, cells := 0, slots := 0, locals := 12 } : Room) #[(.ref a1)] h0 (Q_vo Z zC a1 h0) := by
  refine Con.intro (plainFor_of_name pn0) ?_
  intro p e s m below meth c T0 X0 hx hby hml hown0 hnm hret hlk hZ0 e0
  have N0 := Fr.nil Z.heap.size
  refine castGo (g' := mkF m 0 #[.val (.ref a1)] []) (by first | rfl | (simp [entryFrame, mkF, argsToLocals, Value.category]; done)) ?_
  show Go _ _ _ _ (T0.setTop (mkF m 0 #[.val (.ref a1)] []))
  refine aL X0 hx (hb hby d_jdk_42m133_0) (q := 1) rfl rfl rfl ?_
  refine nnY X0 hx (hb hby d_jdk_42m133_1) (q := 10) (by decide) (by decide) ?_
  refine aL X0 hx (hb hby d_jdk_42m133_10) (q := 11) rfl rfl rfl ?_
  refine g_vi X0 hx hZ0 hown0 (wd105 hw) (wd106 hw) (nf_of (as := #[]) (mvT hZ0 (wd151 hw)) rfl) (wd108 hw) (wd109 hw) (by decide) P1 e0 (Con.back (W := 0) (rm_tost l Z a0 hw hl zC SC PC hX a1 h0 O0 ) hZ0 (wd110 hw) (wd3 hw) (by decide) (by decide)) (by rw [hml]; rfl) (lenOf pd19 rfl) rfl (Nat.le_of_eq rfl) (hb hby d_jdk_42m133_11) (q := 14) rfl (by decide) (by decide) ?_
  intro v455 T455 L455 X455 Q455
  obtain ⟨rfl, Nq455, e455⟩ := Q455
  have N455 := Fr.app N0 Nq455
  show Go _ _ _ _ (T455.setTop (mkF m 14 #[.val (.ref a1)] [(.ref a1)]))
  refine endP X455 hlk (fun h => by rw [hret] at h; cases h) (lastA X455 hx hret rfl rfl rfl (hb hby d_jdk_42m133_14)) ?_ (by decide) (by decide)
  rw [e455]
  exact ⟨rfl, N455, rfl⟩
theorem d_jdk_42m133_4 : decode jdk_42_method_133_code 4 = .ok (.ldc_w 1005, 3) := by decide +kernel
theorem d_jdk_42m133_7 : decode jdk_42_method_133_code 7 = .ok (.goto 7, 3) := by decide +kernel
def Q_von (Z : State) (zC : Int32) (h0 : Heap) (v : Option Value) (h : Heap) (L : List Loc) : Prop := ∃ (r : Addr), ∃ (t : Addr), ∃ (k : ClassId), v = some (.ref r) ∧ Fr Z.heap.size L ∧ Keep h0 h [] ∧ Exa Z h r sT1 ∧ Fld Z h r sT1 "coder" "B" (iv 0) ∧ Fld Z h r sT1 "value" "[B" (.ref t) ∧ Arv Z h t k .byte (4 : Int32) [(iv 110), (iv 117), (iv 108), (iv 108)] (.int 0)
theorem rm_von (l : Launch) (Z : State) (a0 : Array Value) (hw : HW a0 Z) (hl : l.stackTraces = true) (zC : Int32) (SC : tSC Z zC) (PC : ¬ zC = (0 : Int32)) (hX : ExW a0 Z)  (h0 : Heap) (O0 : Old Z Z.heap.size h0)  :
    ConS l Z EL (⟨sT1, "valueOf", "(Ljava/lang/Object;)Ljava/lang/String;"⟩ : MethodName) jdk_42_method_133_code 1 (some (.object sT1)) ({ frames := 0, cells := 2, slots := 20, locals := 0 } : Room) #[.null] h0 [] (Q_von Z zC h0) := by
  refine ConS.intro (plainFor_of_name pn0) ?_
  intro p e s m below meth c T0 v0 X0 hx hby hml hown0 hnm hret hlk hZ0 e0 hS0 C0 hsl0
  have N0 := Fr.nil Z.heap.size
  refine castGo (g' := mkF m 0 #[.val .null] []) (by first | rfl | (simp [entryFrame, mkF, argsToLocals, Value.category]; done)) ?_
  show Go _ _ _ _ (T0.setTop (mkF m 0 #[.val .null] []))
  refine aL X0 hx (hb hby d_jdk_42m133_0) (q := 1) rfl rfl rfl ?_
  refine nnN X0 hx (hb hby d_jdk_42m133_1) (q := 4) rfl ?_
  refine g_ldcw X0 hx hZ0 hown0 (wd261 hw) (own_wS hw) hS0 (Nat.zero_le _) (own_EW hw) (by simp [EL]) C0.1 (vs := [(iv 110), (iv 117), (iv 108), (iv 108)]) (z := (4 : Int32)) ⟨by decide, by decide⟩ (by decide) (by decide) (n := 16) (by decide) (by decide) (by decide) (by decide) e0 (hb hby d_jdk_42m133_4) (q := 7) rfl ?_
  intro b456 T456 h456 kk456 d456 k456 X456 e456 E456 hS456 hk456 hZ456 hown456 A456 Fc456 Fv456 V456 lta456 ltb456 R456 sn456
  refine g_goto X456 hx (hb hby d_jdk_42m133_7) (q := 14) (by decide) (by decide) ?_
  have K457 : Keep h0 h456 [] := (Keep.refl h0 []).ext E456
  have f458 := C0.trans R456
  refine endC X456 hlk hS456 (by rw [e456]; exact (Nat.le_trans hk456 (Nat.le_refl _))) hZ456 (own_EW hw) (by rw [e456]; exact f458) (fun h => by rw [hret] at h; cases h) (lastA X456 hx hret rfl rfl rfl (hb hby d_jdk_42m133_14)) ?_ (by decide) (by decide)
  rw [e456]
  exact ⟨b456, d456, k456, rfl, N0, K457, A456, Fc456, Fv456, V456⟩
theorem d_jdk_67m6_0 : decode jdk_67_method_6_code 0 = .ok (.aload_n 0, 1) := by decide +kernel
theorem d_jdk_67m6_1 : decode jdk_67_method_6_code 1 = .ok (.aload_n 1, 1) := by decide +kernel
theorem d_jdk_67m6_2 : decode jdk_67_method_6_code 2 = .ok (.invokestatic 17, 3) := by decide +kernel
theorem wd104 {a0 : Array Value} {Z : State} (hw : HW a0 Z) : ((Jvm.Cond.code ({ cls := "java/lang/String", name := "valueOf", desc := "(Ljava/lang/Object;)Ljava/lang/String;" } : Jvm.MethodName) jdk_42_method_133_code (1 : Nat) (Option.some (Jvm.ClassFile.FieldType.object "java/lang/String"))) : Jvm.Cond).before a0 Z = true := hw _ (List.mem_of_getElem? (i := 104) rfl)
theorem pd20 : parseMethodDescriptor "(Ljava/lang/Object;)Ljava/lang/String;" = some ⟨[(.object "java/lang/Object")], some (.object "java/lang/String")⟩ := by decide +kernel
theorem wd102 {a0 : Array Value} {Z : State} (hw : HW a0 Z) : ((Jvm.Cond.methodLink "java/lang/StringBuilder" (17 : Nat) ({ cls := "java/lang/String", name := "valueOf", desc := "(Ljava/lang/Object;)Ljava/lang/String;" } : Jvm.MethodName)) : Jvm.Cond).before a0 Z = true := hw _ (List.mem_of_getElem? (i := 102) rfl)
theorem wd103 {a0 : Array Value} {Z : State} (hw : HW a0 Z) : ((Jvm.Cond.static ({ cls := "java/lang/String", name := "valueOf", desc := "(Ljava/lang/Object;)Ljava/lang/String;" } : Jvm.MethodName)) : Jvm.Cond).before a0 Z = true := hw _ (List.mem_of_getElem? (i := 103) rfl)
theorem d_jdk_67m6_5 : decode jdk_67_method_6_code 5 = .ok (.invokevirtual 23, 3) := by decide +kernel
theorem wd53 {a0 : Array Value} {Z : State} (hw : HW a0 Z) : ((Jvm.Cond.code ({ cls := "java/lang/StringBuilder", name := "append", desc := "(Ljava/lang/String;)Ljava/lang/StringBuilder;" } : Jvm.MethodName) jdk_67_method_7_code (2 : Nat) (Option.some (Jvm.ClassFile.FieldType.object "java/lang/StringBuilder"))) : Jvm.Cond).before a0 Z = true := hw _ (List.mem_of_getElem? (i := 53) rfl)
theorem pd21 : parseMethodDescriptor "(Ljava/lang/String;)Ljava/lang/StringBuilder;" = some ⟨[(.object "java/lang/String")], some (.object "java/lang/StringBuilder")⟩ := by decide +kernel
theorem wd52 {a0 : Array Value} {Z : State} (hw : HW a0 Z) : ((Jvm.Cond.selects "java/lang/StringBuilder" ({ cls := "java/lang/StringBuilder", name := "append", desc := "(Ljava/lang/String;)Ljava/lang/StringBuilder;" } : Jvm.MethodName) ({ cls := "java/lang/StringBuilder", name := "append", desc := "(Ljava/lang/String;)Ljava/lang/StringBuilder;" } : Jvm.MethodName)) : Jvm.Cond).before a0 Z = true := hw _ (List.mem_of_getElem? (i := 52) rfl)
theorem wd111 {a0 : Array Value} {Z : State} (hw : HW a0 Z) : ((Jvm.Cond.methodLink "java/lang/StringBuilder" (23 : Nat) ({ cls := "java/lang/StringBuilder", name := "append", desc := "(Ljava/lang/String;)Ljava/lang/StringBuilder;" } : Jvm.MethodName)) : Jvm.Cond).before a0 Z = true := hw _ (List.mem_of_getElem? (i := 111) rfl)
theorem wd50 {a0 : Array Value} {Z : State} (hw : HW a0 Z) : ((Jvm.Cond.declares ({ cls := "java/lang/StringBuilder", name := "append", desc := "(Ljava/lang/String;)Ljava/lang/StringBuilder;" } : Jvm.MethodName)) : Jvm.Cond).before a0 Z = true := hw _ (List.mem_of_getElem? (i := 50) rfl)
theorem wd51 {a0 : Array Value} {Z : State} (hw : HW a0 Z) : ((Jvm.Cond.instanceMethod ({ cls := "java/lang/StringBuilder", name := "append", desc := "(Ljava/lang/String;)Ljava/lang/StringBuilder;" } : Jvm.MethodName)) : Jvm.Cond).before a0 Z = true := hw _ (List.mem_of_getElem? (i := 51) rfl)
theorem d_jdk_67m6_8 : decode jdk_67_method_6_code 8 = .ok (.areturn, 1) := by decide +kernel
def Q_apoB (Z : State) (zC : Int32) (a1 : Addr) (vv : Addr) (kv : ClassId) (vd : List Value) (a2 : Addr) (t : Addr) (kt : ClassId) (us : List Value) (fn : Int32) (h0 : Heap) (v : Option Value) (h : Heap) (L : List Loc) : Prop := v = some (.ref a1) ∧ Fr Z.heap.size L ∧ Keep h0 h [a1, vv] ∧ Exa Z h a1 sT2 ∧ Fld Z h a1 sT0 "coder" "B" (iv 0) ∧ Fld Z h a1 sT0 "count" "I" (.int ((15 : Int32) + fn)) ∧ Fld Z h a1 sT0 "value" "[B" (.ref vv) ∧ Arv Z h vv kv .byte (16 : Int32) (ins vd (sub us 0 (Int32.toNatClampNeg fn) (.int 0)) 15 (Int32.toNatClampNeg fn)) (.int 0) ∧ ((ins vd (sub us 0 (Int32.toNatClampNeg fn) (.int 0)) 15 (Int32.toNatClampNeg fn)).length = 16)
theorem rm_apoB (l : Launch) (Z : State) (a0 : Array Value) (hw : HW a0 Z) (hl : l.stackTraces = true) (zC : Int32) (SC : tSC Z zC) (PC : ¬ zC = (0 : Int32)) (hX : ExW a0 Z) (a1 : Addr) (vv : Addr) (kv : ClassId) (vd : List Value) (a2 : Addr) (t : Addr) (kt : ClassId) (us : List Value) (fn : Int32) (h0 : Heap) (O0 : Old Z Z.heap.size h0) (Qe : Exa Z h0 a1 sT2) (Qc : Fld Z h0 a1 sT0 "coder" "B" (iv 0)) (Qn : Fld Z h0 a1 sT0 "count" "I" (iv 15)) (Qv : Fld Z h0 a1 sT0 "value" "[B" (.ref vv)) (Qa : Arv Z h0 vv kv .byte (16 : Int32) vd (.int 0)) (Ql : (vd.length = 16)) (Qz : Z.heap.size ≤ a1) (Qy : Z.heap.size ≤ vv) (Pe : Exa Z h0 a2 sT1) (Pc : Fld Z h0 a2 sT1 "coder" "B" (iv 0)) (Pv : Fld Z h0 a2 sT1 "value" "[B" (.ref t)) (Pa : Arv Z h0 t kt .byte fn us (.int 0)) (Pl : (us.length = (Int32.toNatClampNeg fn))) (hfn : (fn = (0 : Int32) ∨ fn = (1 : Int32))) :
    Con l Z (⟨sT2, "append", "(Ljava/lang/Object;)Ljava/lang/StringBuilder;"⟩ : MethodName) jdk_67_method_6_code 2 (some (.object sT2)) ({ frames := 5, cells := 0, slots := 0, locals := 87 } : Room) #[(.ref a1), (.ref a2)] h0 (Q_apoB Z zC a1 vv kv vd a2 t kt us fn h0) := by
  refine Con.intro (plainFor_of_name pn2) ?_
  intro p e s m below meth c T0 X0 hx hby hml hown0 hnm hret hlk hZ0 e0
  have N0 := Fr.nil Z.heap.size
  refine castGo (g' := mkF m 0 #[.val (.ref a1), .val (.ref a2)] []) (by first | rfl | (simp [entryFrame, mkF, argsToLocals, Value.category]; done)) ?_
  show Go _ _ _ _ (T0.setTop (mkF m 0 #[.val (.ref a1), .val (.ref a2)] []))
  refine aL X0 hx (hb hby d_jdk_67m6_0) (q := 1) rfl rfl rfl ?_
  refine aL X0 hx (hb hby d_jdk_67m6_1) (q := 2) rfl rfl rfl ?_
  refine g_st X0 hx hZ0 hown0 (wd102 hw) (wd103 hw) (wd3 hw) (wd104 hw) (by decide) e0 (Con.back (W := 1) (rm_vo l Z a0 hw hl zC SC PC hX a2 h0 O0 Pe) hZ0 (wd104 hw) (wd3 hw) (by decide) (by decide)) (by rw [hml]; rfl) (lenOf pd20 rfl) rfl (Nat.le_of_eq rfl) (hb hby d_jdk_67m6_2) (q := 5) rfl (by decide) (by decide) ?_
  intro v459 T459 L459 X459 Q459
  obtain ⟨rfl, Nq459, e459⟩ := Q459
  have N459 := Fr.app N0 Nq459
  show Go _ _ _ _ (T459.setTop (mkF m 5 #[.val (.ref a1), .val (.ref a2)] [(.ref a2), (.ref a1)]))
  refine g_vi X459 hx hZ0 hown0 (wd111 hw) (wd50 hw) (notFace_of_selects (args := #[]) (mvT hZ0 (wd52 hw))) (wd52 hw) (wd51 hw) (by decide) Qe e459 (Con.back (W := 0) (rm_sapB l Z a0 hw hl zC SC PC hX a1 vv kv vd a2 t kt us fn h0 O0 Qe Qc Qn Qv Qa Ql Qz Qy Pe Pc Pv Pa Pl hfn) hZ0 (wd53 hw) (wd32 hw) (by decide) (by decide)) (by rw [hml]; rfl) (lenOf pd21 rfl) rfl (Nat.le_of_eq rfl) (hb hby d_jdk_67m6_5) (q := 8) rfl (by decide) (by decide) ?_
  intro v460 T460 L460 X460 Q460
  obtain ⟨rfl, Nq460, K460q, q460_0, q460_1, q460_2, q460_3, q460_4, q460_5⟩ := Q460
  have N460 := Fr.app N459 Nq460
  show Go _ _ _ _ (T460.setTop (mkF m 8 #[.val (.ref a1), .val (.ref a2)] [(.ref a1)]))
  have K461 : Keep h0 T460.heap [a1, vv] := (Keep.refl h0 [a1, vv]).trans K460q (allS (Or.inl (by simp)) (allS (Or.inl (by simp)) all0))
  refine endP X460 hlk (fun h => by rw [hret] at h; cases h) (lastA X460 hx hret rfl rfl rfl (hb hby d_jdk_67m6_8)) ?_ (by decide) (by decide)
  exact ⟨rfl, N460, K461, q460_0, q460_1, q460_2, q460_3, q460_4, q460_5⟩
def Q_apoG (Z : State) (zC : Int32) (a1 : Addr) (vv : Addr) (kv : ClassId) (vd : List Value) (a2 : Addr) (t : Addr) (kt : ClassId) (us : List Value) (fn : Int32) (h0 : Heap) (v : Option Value) (h : Heap) (L : List Loc) : Prop := ∃ (c : Addr), ∃ (kc : ClassId), v = some (.ref a1) ∧ Fr Z.heap.size L ∧ Keep h0 h [a1] ∧ Exa Z h a1 sT2 ∧ Fld Z h a1 sT0 "coder" "B" (iv 0) ∧ Fld Z h a1 sT0 "count" "I" (.int ((15 : Int32) + fn)) ∧ Fld Z h a1 sT0 "value" "[B" (.ref c) ∧ Arv Z h c kc .byte (34 : Int32) (ins (ins (List.replicate 34 (iv 0)) (sub vd 0 16 (.int 0)) 0 16) (sub us 0 (Int32.toNatClampNeg fn) (.int 0)) 15 (Int32.toNatClampNeg fn)) (.int 0) ∧ ((ins (ins (List.replicate 34 (iv 0)) (sub vd 0 16 (.int 0)) 0 16) (sub us 0 (Int32.toNatClampNeg fn) (.int 0)) 15 (Int32.toNatClampNeg fn)).length = 34) ∧ h0.size ≤ c ∧ Exa Z h c "[B"
theorem rm_apoG (l : Launch) (Z : State) (a0 : Array Value) (hw : HW a0 Z) (hl : l.stackTraces = true) (zC : Int32) (SC : tSC Z zC) (PC : ¬ zC = (0 : Int32)) (hX : ExW a0 Z) (a1 : Addr) (vv : Addr) (kv : ClassId) (vd : List Value) (a2 : Addr) (t : Addr) (kt : ClassId) (us : List Value) (fn : Int32) (h0 : Heap) (O0 : Old Z Z.heap.size h0) (Qe : Exa Z h0 a1 sT2) (Qc : Fld Z h0 a1 sT0 "coder" "B" (iv 0)) (Qn : Fld Z h0 a1 sT0 "count" "I" (iv 15)) (Qv : Fld Z h0 a1 sT0 "value" "[B" (.ref vv)) (Qa : Arv Z h0 vv kv .byte (16 : Int32) vd (.int 0)) (Ql : (vd.length = 16)) (Qz : Z.heap.size ≤ a1) (Qy : Z.heap.size ≤ vv) (Pe : Exa Z h0 a2 sT1) (Pc : Fld Z h0 a2 sT1 "coder" "B" (iv 0)) (Pv : Fld Z h0 a2 sT1 "value" "[B" (.ref t)) (Pa : Arv Z h0 t kt .byte fn us (.int 0)) (Pl : (us.length = (Int32.toNatClampNeg fn))) (hfn : (fn = (2 : Int32) ∨ fn = (3 : Int32))) :
    Con l Z (⟨sT2, "append", "(Ljava/lang/Object;)Ljava/lang/StringBuilder;"⟩ : MethodName) jdk_67_method_6_code 2 (some (.object sT2)) ({ frames := 6, cells := 1, slots := 34, locals := 89 } : Room) #[(.ref a1), (.ref a2)] h0 (Q_apoG Z zC a1 vv kv vd a2 t kt us fn h0) := by
  refine Con.intro (plainFor_of_name pn2) ?_
  intro p e s m below meth c T0 X0 hx hby hml hown0 hnm hret hlk hZ0 e0
  have N0 := Fr.nil Z.heap.size
  refine castGo (g' := mkF m 0 #[.val (.ref a1), .val (.ref a2)] []) (by first | rfl | (simp [entryFrame, mkF, argsToLocals, Value.category]; done)) ?_
  show Go _ _ _ _ (T0.setTop (mkF m 0 #[.val (.ref a1), .val (.ref a2)] []))
  refine aL X0 hx (hb hby d_jdk_67m6_0) (q := 1) rfl rfl rfl ?_
  refine aL X0 hx (hb hby d_jdk_67m6_1) (q := 2) rfl rfl rfl ?_
  refine g_st X0 hx hZ0 hown0 (wd102 hw) (wd103 hw) (wd3 hw) (wd104 hw) (by decide) e0 (Con.back (W := 1) (rm_vo l Z a0 hw hl zC SC PC hX a2 h0 O0 Pe) hZ0 (wd104 hw) (wd3 hw) (by decide) (by decide)) (by rw [hml]; rfl) (lenOf pd20 rfl) rfl (Nat.le_of_eq rfl) (hb hby d_jdk_67m6_2) (q := 5) rfl (by decide) (by decide) ?_
  intro v462 T462 L462 X462 Q462
  obtain ⟨rfl, Nq462, e462⟩ := Q462
  have N462 := Fr.app N0 Nq462
  show Go _ _ _ _ (T462.setTop (mkF m 5 #[.val (.ref a1), .val (.ref a2)] [(.ref a2), (.ref a1)]))
  refine g_vi X462 hx hZ0 hown0 (wd111 hw) (wd50 hw) (notFace_of_selects (args := #[]) (mvT hZ0 (wd52 hw))) (wd52 hw) (wd51 hw) (by decide) Qe e462 (Con.back (W := 0) (rm_sapG l Z a0 hw hl zC SC PC hX a1 vv kv vd a2 t kt us fn h0 O0 Qe Qc Qn Qv Qa Ql Qz Qy Pe Pc Pv Pa Pl (by rcases hfn with rfl | rfl <;> decide)) hZ0 (wd53 hw) (wd32 hw) (by decide) (by decide)) (by rw [hml]; rfl) (lenOf pd21 rfl) rfl (Nat.le_of_eq rfl) (hb hby d_jdk_67m6_5) (q := 8) rfl (by decide) (by decide) ?_
  intro v463 T463 L463 X463 Q463
  obtain ⟨c_463, kc_463, rfl, Nq463, K463q, q463_0, q463_1, q463_2, q463_3, q463_4, q463_5, q463_6, q463_7⟩ := Q463
  have N463 := Fr.app N462 Nq463
  show Go _ _ _ _ (T463.setTop (mkF m 8 #[.val (.ref a1), .val (.ref a2)] [(.ref a1)]))
  have K464 : Keep h0 T463.heap [a1] := (Keep.refl h0 [a1]).trans K463q (allS (Or.inl (by simp)) all0)
  have gh465 : h0.size ≤ c_463 := Nat.le_trans (Nat.le_refl _) q463_6
  refine endP X463 hlk (fun h => by rw [hret] at h; cases h) (lastA X463 hx hret rfl rfl rfl (hb hby d_jdk_67m6_8)) ?_ (by decide) (by decide)
  exact ⟨c_463, kc_463, rfl, N463, K464, q463_0, q463_1, q463_2, q463_3, q463_4, q463_5, gh465, q463_7⟩
def Q_apoN (Z : State) (zC : Int32) (a1 : Addr) (vv : Addr) (kv : ClassId) (vd : List Value) (h0 : Heap) (v : Option Value) (h : Heap) (L : List Loc) : Prop := ∃ (c : Addr), ∃ (kc : ClassId), v = some (.ref a1) ∧ Fr Z.heap.size L ∧ Keep h0 h [a1] ∧ Exa Z h a1 sT2 ∧ Fld Z h a1 sT0 "coder" "B" (iv 0) ∧ Fld Z h a1 sT0 "count" "I" (iv 19) ∧ Fld Z h a1 sT0 "value" "[B" (.ref c) ∧ Arv Z h c kc .byte (34 : Int32) (ins (ins (List.replicate 34 (iv 0)) (sub vd 0 16 (.int 0)) 0 16) (sub [(iv 110), (iv 117), (iv 108), (iv 108)] 0 4 (.int 0)) 15 4) (.int 0) ∧ ((ins (ins (List.replicate 34 (iv 0)) (sub vd 0 16 (.int 0)) 0 16) (sub [(iv 110), (iv 117), (iv 108), (iv 108)] 0 4 (.int 0)) 15 4).length = 34) ∧ h0.size ≤ c ∧ Exa Z h c "[B"
theorem rm_apoN (l : Launch) (Z : State) (a0 : Array Value) (hw : HW a0 Z) (hl : l.stackTraces = true) (zC : Int32) (SC : tSC Z zC) (PC : ¬ zC = (0 : Int32)) (hX : ExW a0 Z) (a1 : Addr) (vv : Addr) (kv : ClassId) (vd : List Value) (h0 : Heap) (O0 : Old Z Z.heap.size h0) (Qe : Exa Z h0 a1 sT2) (Qc : Fld Z h0 a1 sT0 "coder" "B" (iv 0)) (Qn : Fld Z h0 a1 sT0 "count" "I" (iv 15)) (Qv : Fld Z h0 a1 sT0 "value" "[B" (.ref vv)) (Qa : Arv Z h0 vv kv .byte (16 : Int32) vd (.int 0)) (Ql : (vd.length = 16)) (Qz : Z.heap.size ≤ a1) (Qy : Z.heap.size ≤ vv) :
    ConS l Z EL (⟨sT2, "append", "(Ljava/lang/Object;)Ljava/lang/StringBuilder;"⟩ : MethodName) jdk_67_method_6_code 2 (some (.object sT2)) ({ frames := 6, cells := 3, slots := 54, locals := 89 } : Room) #[(.ref a1), .null] h0 [] (Q_apoN Z zC a1 vv kv vd h0) := by
  refine ConS.intro (plainFor_of_name pn2) ?_
  intro p e s m below meth c T0 v0 X0 hx hby hml hown0 hnm hret hlk hZ0 e0 hS0 C0 hsl0
  have N0 := Fr.nil Z.heap.size
  refine castGo (g' := mkF m 0 #[.val (.ref a1), .val .null] []) (by first | rfl | (simp [entryFrame, mkF, argsToLocals, Value.category]; done)) ?_
  show Go _ _ _ _ (T0.setTop (mkF m 0 #[.val (.ref a1), .val .null] []))
  refine aL X0 hx (hb hby d_jdk_67m6_0) (q := 1) rfl rfl rfl ?_
  refine aL X0 hx (hb hby d_jdk_67m6_1) (q := 2) rfl rfl rfl ?_
  refine g_stS X0 hx hZ0 hown0 hS0 (Nat.zero_le _) (wd102 hw) (wd103 hw) (wd3 hw) (wd104 hw) (by decide) e0 (ConS.back (W := 1) (rm_von l Z a0 hw hl zC SC PC hX  h0 O0 ) hZ0 (wd104 hw) (wd3 hw) (by decide) (by decide) (own_EW hw) C0.1 sf0 all0) (by rw [hml]; rfl) (lenOf pd20 rfl) rfl (Nat.le_of_eq rfl) (hb hby d_jdk_67m6_2) (q := 5) rfl (by decide) (by decide) ?_
  rintro v466 T466 L466 ⟨X466, hS466, hZ466, hown466, R466⟩ Q466
  obtain ⟨r_466, t_466, k_466, rfl, Nq466, K466q, q466_0, q466_1, q466_2, q466_3⟩ := Q466
  have N466 := Fr.app N0 Nq466
  show Go _ _ _ _ (T466.setTop (mkF m 5 #[.val (.ref a1), .val .null] [(.ref r_466), (.ref a1)]))
  have f480 := Qe.keep K466q
  have f481 := Qc.keep K466q nin0
  have f482 := Qn.keep K466q nin0
  have f483 := Qv.keep K466q nin0
  have f484 := Qa.keep K466q nin0
  have f485 := O0.keep K466q all0
  refine g_vi X466 hx hZ466 hown466 (wd111 hw) (wd50 hw) (notFace_of_selects (args := #[]) (mvT hZ466 (wd52 hw))) (wd52 hw) (wd51 hw) (by decide) f480 rfl (Con.back (W := 0) (rm_sapG l Z a0 hw hl zC SC PC hX a1 vv kv vd r_466 t_466 k_466 [(iv 110), (iv 117), (iv 108), (iv 108)] (4 : Int32) T466.heap f485 f480 f481 f482 f483 f484 Ql Qz Qy q466_0 q466_1 q466_2 q466_3 rfl (by decide)) hZ466 (wd53 hw) (wd32 hw) (by decide) (by decide)) (by rw [hml]; rfl) (lenOf pd21 rfl) rfl (Nat.le_of_eq rfl) (hb hby d_jdk_67m6_5) (q := 8) rfl (by decide) (by decide) ?_
  intro v479 T479 L479 X479 Q479
  obtain ⟨c_479, kc_479, rfl, Nq479, K479q, q479_0, q479_1, q479_2, q479_3, q479_4, q479_5, q479_6, q479_7⟩ := Q479
  have N479 := Fr.app N466 Nq479
  have eq479_2 : Fld Z T479.heap a1 sT0 "count" "I" (iv 19) := by have := q479_2; rwa [show ((15 : Int32) + (4 : Int32)) = (19 : Int32) from by decide] at this
  show Go _ _ _ _ (T479.setTop (mkF m 8 #[.val (.ref a1), .val .null] [(.ref a1)]))
  have K486 : Keep h0 T466.heap [a1] := (Keep.refl h0 [a1]).trans K466q all0
  have K487 : Keep h0 T479.heap [a1] := K486.trans K479q (allS (Or.inl (by simp)) all0)
  have le489 := K466q.1
  have gh488 : h0.size ≤ c_479 := Nat.le_trans le489 q479_6
  have le490 := K479q.1
  have f491 := C0.trans R466
  have f492 := f491.trans (CHr.keep K479q (sfS (Safe.exa hZ466.alike f480 (by decide) (by decide)) sf0) f491.1)
  refine endC X479 hlk hS466 (Nat.le_trans (Nat.le_refl _) le490) hZ466 (own_EW hw) f492 (fun h => by rw [hret] at h; cases h) (lastA X479 hx hret rfl rfl rfl (hb hby d_jdk_67m6_8)) ?_ (by decide) (by decide)
  exact ⟨c_479, kc_479, rfl, N479, K487, q479_0, q479_1, eq479_2, q479_3, q479_4, rfl, gh488, q479_7⟩
theorem d_jdk_78m6_0 : decode jdk_78_method_6_code 0 = .ok (.aload_n 0, 1) := by decide +kernel
theorem d_jdk_78m6_1 : decode jdk_78_method_6_code 1 = .ok (.getfield 31, 3) := by decide +kernel
theorem wd206 {a0 : Array Value} {Z : State} (hw : HW a0 Z) : ((Jvm.Cond.fieldLink "java/lang/Throwable" (31 : Nat) "java/lang/Throwable" "detailMessage" "Ljava/lang/String;") : Jvm.Cond).before a0 Z = true := hw _ (List.mem_of_getElem? (i := 206) rfl)
theorem d_jdk_78m6_4 : decode jdk_78_method_6_code 4 = .ok (.areturn, 1) := by decide +kernel
def Q_gmsg (Z : State) (zC : Int32) (a1 : Addr) (a2 : Addr) (h0 : Heap) (v : Option Value) (h : Heap) (L : List Loc) : Prop := v = some (.ref a2) ∧ Fr Z.heap.size L ∧ h = h0
theorem pn8 : plainName "java/lang/Throwable" = true := by first | (simp [plainName, overriddenIn]; done) | decide +kernel
theorem rm_gmsg (l : Launch) (Z : State) (a0 : Array Value) (hw : HW a0 Z) (hl : l.stackTraces = true) (zC : Int32) (SC : tSC Z zC) (PC : ¬ zC = (0 : Int32)) (hX : ExW a0 Z) (a1 : Addr) (a2 : Addr) (h0 : Heap) (O0 : Old Z Z.heap.size h0) (P1 : Fld Z h0 a1 sT4 "detailMessage" "Ljava/lang/String;" (.ref a2)) :
    Con l Z (⟨sT4, "getMessage", "()Ljava/lang/String;"⟩ : MethodName) jdk_78_method_6_code 1 (some (.object sT1)) ({ frames := 0, cells := 0, slots := 0, locals := 0 } : Room) #[(.ref a1)] h0 (Q_gmsg Z zC a1 a2 h0) := by
  refine Con.intro (plainFor_of_name pn8) ?_
  intro p e s m below meth c T0 X0 hx hby hml hown0 hnm hret hlk hZ0 e0
  have N0 := Fr.nil Z.heap.size
  refine castGo (g' := mkF m 0 #[.val (.ref a1)] []) (by first | rfl | (simp [entryFrame, mkF, argsToLocals, Value.category]; done)) ?_
  show Go _ _ _ _ (T0.setTop (mkF m 0 #[.val (.ref a1)] []))
  refine aL X0 hx (hb hby d_jdk_78m6_0) (q := 1) rfl rfl rfl ?_
  refine g_getF X0 hx hZ0 hown0 (host := "") (Or.inl (wd206 hw)) Via.refl P1 e0 (hb hby d_jdk_78m6_1) (q := 4) rfl ?_
  intro T493 X493 e493
  refine endP X493 hlk (fun h => by rw [hret] at h; cases h) (lastA X493 hx hret rfl rfl rfl (hb hby d_jdk_78m6_4)) ?_ (by decide) (by decide)
  rw [e493]
  exact ⟨rfl, N0, rfl⟩
theorem d_jdk_78m2_0 : decode jdk_78_method_2_code 0 = .ok (.aload_n 0, 1) := by decide +kernel
theorem d_jdk_78m2_1 : decode jdk_78_method_2_code 1 = .ok (.invokespecial 1, 3) := by decide +kernel
theorem wd170 {a0 : Array Value} {Z : State} (hw : HW a0 Z) : ((Jvm.Cond.methodLink "java/lang/Throwable" (1 : Nat) ({ cls := "java/lang/Object", name := "<init>", desc := "()V" } : Jvm.MethodName)) : Jvm.Cond).before a0 Z = true := hw _ (List.mem_of_getElem? (i := 170) rfl)
theorem d_jdk_78m2_4 : decode jdk_78_method_2_code 4 = .ok (.aload_n 0, 1) := by decide +kernel
theorem d_jdk_78m2_5 : decode jdk_78_method_2_code 5 = .ok (.aload_n 0, 1) := by decide +kernel
theorem d_jdk_78m2_6 : decode jdk_78_method_2_code 6 = .ok (.putfield 7, 3) := by decide +kernel
theorem wd171 {a0 : Array Value} {Z : State} (hw : HW a0 Z) : ((Jvm.Cond.fieldLink "java/lang/Throwable" (7 : Nat) "java/lang/Throwable" "cause" "Ljava/lang/Throwable;") : Jvm.Cond).before a0 Z = true := hw _ (List.mem_of_getElem? (i := 171) rfl)
theorem wd172 {a0 : Array Value} {Z : State} (hw : HW a0 Z) : ((Jvm.Cond.lays "com/example/usage_throttle/usagethrottle/io/InvalidPolicyException" "java/lang/Throwable" "cause" "Ljava/lang/Throwable;") : Jvm.Cond).before a0 Z = true := hw _ (List.mem_of_getElem? (i := 172) rfl)
theorem wd28 {a0 : Array Value} {Z : State} (hw : HW a0 Z) : ((Jvm.Cond.instantiable "com/example/usage_throttle/usagethrottle/io/InvalidPolicyException" (6 : Nat)) : Jvm.Cond).before a0 Z = true := hw _ (List.mem_of_getElem? (i := 28) rfl)
theorem d_jdk_78m2_9 : decode jdk_78_method_2_code 9 = .ok (.aload_n 0, 1) := by decide +kernel
theorem d_jdk_78m2_10 : decode jdk_78_method_2_code 10 = .ok (.getstatic 13, 3) := by decide +kernel
theorem wd173 {a0 : Array Value} {Z : State} (hw : HW a0 Z) : ((Jvm.Cond.fieldLink "java/lang/Throwable" (13 : Nat) "java/lang/Throwable" "UNASSIGNED_STACK" "[Ljava/lang/StackTraceElement;") : Jvm.Cond).before a0 Z = true := hw _ (List.mem_of_getElem? (i := 173) rfl)
theorem d_jdk_78m2_13 : decode jdk_78_method_2_code 13 = .ok (.putfield 17, 3) := by decide +kernel
theorem wd174 {a0 : Array Value} {Z : State} (hw : HW a0 Z) : ((Jvm.Cond.fieldLink "java/lang/Throwable" (17 : Nat) "java/lang/Throwable" "stackTrace" "[Ljava/lang/StackTraceElement;") : Jvm.Cond).before a0 Z = true := hw _ (List.mem_of_getElem? (i := 174) rfl)
theorem wd175 {a0 : Array Value} {Z : State} (hw : HW a0 Z) : ((Jvm.Cond.lays "com/example/usage_throttle/usagethrottle/io/InvalidPolicyException" "java/lang/Throwable" "stackTrace" "[Ljava/lang/StackTraceElement;") : Jvm.Cond).before a0 Z = true := hw _ (List.mem_of_getElem? (i := 175) rfl)
theorem d_jdk_78m2_16 : decode jdk_78_method_2_code 16 = .ok (.aload_n 0, 1) := by decide +kernel
theorem d_jdk_78m2_17 : decode jdk_78_method_2_code 17 = .ok (.getstatic 20, 3) := by decide +kernel
theorem wd176 {a0 : Array Value} {Z : State} (hw : HW a0 Z) : ((Jvm.Cond.fieldLink "java/lang/Throwable" (20 : Nat) "java/lang/Throwable" "SUPPRESSED_SENTINEL" "Ljava/util/List;") : Jvm.Cond).before a0 Z = true := hw _ (List.mem_of_getElem? (i := 176) rfl)
theorem d_jdk_78m2_20 : decode jdk_78_method_2_code 20 = .ok (.putfield 24, 3) := by decide +kernel
theorem wd177 {a0 : Array Value} {Z : State} (hw : HW a0 Z) : ((Jvm.Cond.fieldLink "java/lang/Throwable" (24 : Nat) "java/lang/Throwable" "suppressedExceptions" "Ljava/util/List;") : Jvm.Cond).before a0 Z = true := hw _ (List.mem_of_getElem? (i := 177) rfl)
theorem wd178 {a0 : Array Value} {Z : State} (hw : HW a0 Z) : ((Jvm.Cond.lays "com/example/usage_throttle/usagethrottle/io/InvalidPolicyException" "java/lang/Throwable" "suppressedExceptions" "Ljava/util/List;") : Jvm.Cond).before a0 Z = true := hw _ (List.mem_of_getElem? (i := 178) rfl)
theorem d_jdk_78m2_23 : decode jdk_78_method_2_code 23 = .ok (.aload_n 0, 1) := by decide +kernel
theorem d_jdk_78m2_24 : decode jdk_78_method_2_code 24 = .ok (.invokevirtual 27, 3) := by decide +kernel
theorem wd203 {a0 : Array Value} {Z : State} (hw : HW a0 Z) : ((Jvm.Cond.lays "com/example/usage_throttle/usagethrottle/io/InvalidPolicyException" "java/lang/Throwable" "backtrace" "Ljava/lang/Object;") : Jvm.Cond).before a0 Z = true := hw _ (List.mem_of_getElem? (i := 203) rfl)
theorem wd202 {a0 : Array Value} {Z : State} (hw : HW a0 Z) : ((Jvm.Cond.lays "com/example/usage_throttle/usagethrottle/io/InvalidPolicyException" "java/lang/Throwable" "detailMessage" "Ljava/lang/String;") : Jvm.Cond).before a0 Z = true := hw _ (List.mem_of_getElem? (i := 202) rfl)
theorem d_jdk_78m2_27 : decode jdk_78_method_2_code 27 = .ok (.pop, 1) := by decide +kernel
theorem d_jdk_78m2_28 : decode jdk_78_method_2_code 28 = .ok (.aload_n 0, 1) := by decide +kernel
theorem d_jdk_78m2_29 : decode jdk_78_method_2_code 29 = .ok (.aload_n 1, 1) := by decide +kernel
theorem d_jdk_78m2_30 : decode jdk_78_method_2_code 30 = .ok (.putfield 31, 3) := by decide +kernel
theorem d_jdk_78m2_33 : decode jdk_78_method_2_code 33 = .ok (.return_, 1) := by decide +kernel
def Q_thr0 (Z : State) (zC : Int32) (a1 : Addr) (a2 : Addr) (h0 : Heap) (v : Option Value) (h : Heap) (L : List Loc) : Prop := v = none ∧ Fr Z.heap.size L ∧ Keep h0 h [a1] ∧ Fld Z h a1 sT4 "detailMessage" "Ljava/lang/String;" (.ref a2)
theorem rm_thr0 (l : Launch) (Z : State) (a0 : Array Value) (hw : HW a0 Z) (hl : l.stackTraces = true) (zC : Int32) (SC : tSC Z zC) (PC : ¬ zC = (0 : Int32)) (hX : ExW a0 Z) (a1 : Addr) (a2 : Addr) (h0 : Heap) (O0 : Old Z Z.heap.size h0) (Th : ThS Z h0) (Pe : Exa Z h0 a1 sT3) (Pu : Unt h0 a1) (Pg : Z.heap.size ≤ a1) (P0 : Fld Z h0 a1 sT4 "cause" "Ljava/lang/Throwable;" .null) (P1 : Fld Z h0 a1 sT4 "stackTrace" "[Ljava/lang/StackTraceElement;" .null) (P2 : Fld Z h0 a1 sT4 "suppressedExceptions" "Ljava/util/List;" .null) (P3 : Fld Z h0 a1 sT4 "backtrace" "Ljava/lang/Object;" .null) (P4 : Fld Z h0 a1 sT4 "detailMessage" "Ljava/lang/String;" .null) :
    ConK l Z EL (⟨sT4, "<init>", "(Ljava/lang/String;)V"⟩ : MethodName) jdk_78_method_2_code 2 none ({ frames := 3, cells := 1, slots := 2752, locals := 42 } : Room) #[(.ref a1), (.ref a2)] h0 [a1] (Q_thr0 Z zC a1 a2 h0) := by
  refine ConK.intro (plainFor_of_name pn8) ?_
  intro p e s m below meth c T0 v0 X0 hx hby hml hown0 hnm hret hlk hZ0 e0 hS0 C0 hsl0 hs0 hTK0 hBF0
  have hTh0 : ThS Z s.heap := hs0 ▸ Th
  have Ps := hsl0 a1 (by simp)
  have N0 := Fr.nil Z.heap.size
  refine castGo (g' := mkF m 0 #[.val (.ref a1), .val (.ref a2)] []) (by first | rfl | (simp [entryFrame, mkF, argsToLocals, Value.category]; done)) ?_
  obtain ⟨⟨vU, hvU, SU⟩, vS, hvS, SS⟩ := hX.2
  show Go _ _ _ _ (T0.setTop (mkF m 0 #[.val (.ref a1), .val (.ref a2)] []))
  refine aL X0 hx (hb hby d_jdk_78m2_0) (q := 1) rfl rfl rfl ?_
  refine g_init0 X0 hx hZ0 hown0 (wd170 hw) (wd13 hw) (wd14 hw) (by rw [hml]; rfl) (by decide) (W := 0) (Nat.le_of_eq rfl) (by decide) e0 (hb hby d_jdk_78m2_1) (q := 4) rfl ?_
  intro T494 X494 e494
  refine aL X494 hx (hb hby d_jdk_78m2_4) (q := 5) rfl rfl rfl ?_
  refine aL X494 hx (hb hby d_jdk_78m2_5) (q := 6) rfl rfl rfl ?_
  refine g_putF X494 hx hZ0 hown0 (host := "") (Or.inl (wd171 hw)) Via.refl P0 Pe (Or.inl (wd172 hw)) (wd28 hw) (ty := (.object sT4)) (by decide) rfl rfl e494 (hb hby d_jdk_78m2_6) (q := 9) rfl ?_
  intro T495 h495 X495 e495 W495
  have N495 := Fr.snoc X495 N0 Pg
  have Fw495 : Fld Z h495 a1 sT4 "cause" "Ljava/lang/Throwable;" (.ref a1) := P0.same W495
  refine aL X495 hx (hb hby d_jdk_78m2_9) (q := 10) rfl rfl rfl ?_
  have f497 := O0.wr W495 Pg
  refine g_getS X495 hx hZ0 hown0 (host := "") (Or.inl (wd173 hw)) Via.refl (SU.ext f497.2) e495 (hb hby d_jdk_78m2_10) (q := 13) rfl ?_
  intro T496 X496 e496
  have f498 := P1.other W495 (Or.inr (slot_ne (Or.inl (wd175 hw)) (Or.inl (wd172 hw)) (by decide) (t := (.array (.object "java/lang/StackTraceElement"))) (t' := (.object sT4)) (by decide) (by decide)))
  have f499 := Pe.wr W495
  have f501 := C0.trans (CHr.wr W495 Ps C0.1)
  have f502 := Safe.wr W495 Ps C0.1 Ps
  refine g_putF X496 hx hZ0 hown0 (host := "") (Or.inl (wd174 hw)) Via.refl f498 f499 (Or.inl (wd175 hw)) (wd28 hw) (ty := (.array (.object "java/lang/StackTraceElement"))) (by decide) (own_nrefA hvU) (own_frefA hvU) e496 (hb hby d_jdk_78m2_13) (q := 16) rfl ?_
  intro T500 h500 X500 e500 W500
  have N500 := Fr.snoc X500 N495 Pg
  have Fw500 : Fld Z h500 a1 sT4 "stackTrace" "[Ljava/lang/StackTraceElement;" vU := f498.same W500
  refine aL X500 hx (hb hby d_jdk_78m2_16) (q := 17) rfl rfl rfl ?_
  have f504 := f497.wr W500 Pg
  refine g_getS X500 hx hZ0 hown0 (host := "") (Or.inl (wd176 hw)) Via.refl (SS.ext f504.2) e500 (hb hby d_jdk_78m2_17) (q := 20) rfl ?_
  intro T503 X503 e503
  have f505 := P2.other W495 (Or.inr (slot_ne (Or.inl (wd178 hw)) (Or.inl (wd172 hw)) (by decide) (t := (.object "java/util/List")) (t' := (.object sT4)) (by decide) (by decide)))
  have f506 := f505.other W500 (Or.inr (slot_ne (Or.inl (wd178 hw)) (Or.inl (wd175 hw)) (by decide) (t := (.object "java/util/List")) (t' := (.array (.object "java/lang/StackTraceElement"))) (by decide) (by decide)))
  have f507 := f499.wr W500
  have f509 := f501.trans (CHr.wr W500 f502 f501.1)
  have f510 := Safe.wr W500 f502 f501.1 f502
  refine g_putF X503 hx hZ0 hown0 (host := "") (Or.inl (wd177 hw)) Via.refl f506 f507 (Or.inl (wd178 hw)) (wd28 hw) (ty := (.object "java/util/List")) (by decide) (own_nref hvS) (own_fref hvS) e503 (hb hby d_jdk_78m2_20) (q := 23) rfl ?_
  intro T508 h508 X508 e508 W508
  have N508 := Fr.snoc X508 N500 Pg
  have Fw508 : Fld Z h508 a1 sT4 "suppressedExceptions" "Ljava/util/List;" vS := f506.same W508
  refine aL X508 hx (hb hby d_jdk_78m2_23) (q := 24) rfl rfl rfl ?_
  have f512 := ThS.wr W495 Th
  have f513 := ThS.wr W500 f512
  have f514 := ThS.wr W508 f513
  have f515 := f507.wr W508
  have f516 := Unt.wr W495 Pu
  have f517 := Unt.wr W500 f516
  have f518 := Unt.wr W508 f517
  have f519 := P3.other W495 (Or.inr (slot_ne (Or.inl (wd203 hw)) (Or.inl (wd172 hw)) (by decide) (t := (.object "java/lang/Object")) (t' := (.object sT4)) (by decide) (by decide)))
  have f520 := f519.other W500 (Or.inr (slot_ne (Or.inl (wd203 hw)) (Or.inl (wd175 hw)) (by decide) (t := (.object "java/lang/Object")) (t' := (.array (.object "java/lang/StackTraceElement"))) (by decide) (by decide)))
  have f521 := f520.other W508 (Or.inr (slot_ne (Or.inl (wd203 hw)) (Or.inl (wd178 hw)) (by decide) (t := (.object "java/lang/Object")) (t' := (.object "java/util/List")) (by decide) (by decide)))
  have f522 := P4.other W495 (Or.inr (slot_ne (Or.inl (wd202 hw)) (Or.inl (wd172 hw)) (by decide) (t := (.object sT1)) (t' := (.object sT4)) (by decide) (by decide)))
  have f523 := f522.other W500 (Or.inr (slot_ne (Or.inl (wd202 hw)) (Or.inl (wd175 hw)) (by decide) (t := (.object sT1)) (t' := (.array (.object "java/lang/StackTraceElement"))) (by decide) (by decide)))
  have f524 := f523.other W508 (Or.inr (slot_ne (Or.inl (wd202 hw)) (Or.inl (wd178 hw)) (by decide) (t := (.object sT1)) (t' := (.object "java/util/List")) (by decide) (by decide)))
  have f525 := Fw500.other W508 (Or.inr (slot_ne (Or.inl (wd175 hw)) (Or.inl (wd178 hw)) (by decide) (t := (.array (.object "java/lang/StackTraceElement"))) (t' := (.object "java/util/List")) (by decide) (by decide)))
  have f526 := f509.trans (CHr.wr W508 f510 f509.1)
  have f527 := Safe.wr W508 f510 f509.1 f510
  have f528 := f504.wr W508 Pg
  refine g_fill X508 hx hl hZ0 hown0 hX.1 (wd28 hw) hTh0 (Vm.MethodsKnown.alikeC (hZ0.alike.symm.trans hZ0.alike) hTK0) (Vm.FramesKnown.alikeC (hZ0.alike.symm.trans hZ0.alike) hBF0) e508 f515 f518 f521 f524 hvU f525 (SU.ext f528.2) (based (based (based (fun _ q => nomatch q) X495) X500) X508) (Only.wr (Only.wr (Only.wr (Only.same hs0) W495) W500) W508) (by rw [hml]; rfl) (hb hby d_jdk_78m2_24) (q := 27) rfl (by decide) (W := 0) (Nat.le_of_eq rfl) (by decide) (by decide) (by decide) ?_
  intro T511 h511 L511 X511 e511 B511 K511q M511
  have N511 := Fr.app N508 (fun y hy => (B511 y hy).symm ▸ Pg)
  show Go _ _ _ _ (T511.setTop (mkF m 27 #[.val (.ref a1), .val (.ref a2)] [(.ref a1)]))
  refine g_pop X511 hx (hb hby d_jdk_78m2_27) (q := 28) rfl rfl ?_
  refine aL X511 hx (hb hby d_jdk_78m2_28) (q := 29) rfl rfl rfl ?_
  refine aL X511 hx (hb hby d_jdk_78m2_29) (q := 30) rfl rfl rfl ?_
  have f529 := f515.keep K511q
  have f531 := f526.trans (CHr.keep K511q (sfS f527 sf0) f526.1)
  have f532 := Safe.keep K511q (sfS f527 sf0) f526.1 f527
  refine g_putF X511 hx hZ0 hown0 (host := "") (Or.inl (wd206 hw)) Via.refl M511 f529 (Or.inl (wd202 hw)) (wd28 hw) (ty := (.object sT1)) (by decide) rfl rfl e511 (hb hby d_jdk_78m2_30) (q := 33) rfl ?_
  intro T530 h530 X530 e530 W530
  have N530 := Fr.snoc X530 N511 Pg
  have Fw530 : Fld Z h530 a1 sT4 "detailMessage" "Ljava/lang/String;" (.ref a2) := M511.same W530
  have K533 : Keep h0 h495 [a1] := (Keep.refl h0 [a1]).wr W495 (Or.inl (by simp))
  have K534 : Keep h0 h500 [a1] := K533.wr W500 (Or.inl (by simp))
  have K535 : Keep h0 h508 [a1] := K534.wr W508 (Or.inl (by simp))
  have K536 : Keep h0 h511 [a1] := K535.trans K511q (allS (Or.inl (by simp)) all0)
  have K537 : Keep h0 h530 [a1] := K536.wr W530 (Or.inl (by simp))
  have f538 := f531.trans (CHr.wr W530 f532 f531.1)
  refine endC X530 hlk hS0 (by rw [e530]; exact (Nat.zero_le _)) hZ0 (own_EW hw) (by rw [e530]; exact f538) (fun _ => rfl) (lastV X530 hx hret (hb hby d_jdk_78m2_33)) ?_ (by decide) (by decide)
  rw [e530]
  exact ⟨rfl, N530, K537, Fw530⟩
theorem d_jdk_59m2_0 : decode jdk_59_method_2_code 0 = .ok (.aload_n 0, 1) := by decide +kernel
theorem d_jdk_59m2_1 : decode jdk_59_method_2_code 1 = .ok (.aload_n 1, 1) := by decide +kernel
theorem d_jdk_59m2_2 : decode jdk_59_method_2_code 2 = .ok (.invokespecial 7, 3) := by decide +kernel
theorem wd169 {a0 : Array Value} {Z : State} (hw : HW a0 Z) : ((Jvm.Cond.code ({ cls := "java/lang/Throwable", name := "<init>", desc := "(Ljava/lang/String;)V" } : Jvm.MethodName) jdk_78_method_2_code (2 : Nat) (Option.none : Option Jvm.ClassFile.FieldType)) : Jvm.Cond).before a0 Z = true := hw _ (List.mem_of_getElem? (i := 169) rfl)
theorem wd168 {a0 : Array Value} {Z : State} (hw : HW a0 Z) : ((Jvm.Cond.initialized "java/lang/Throwable") : Jvm.Cond).before a0 Z = true := hw _ (List.mem_of_getElem? (i := 168) rfl)
theorem wd164 {a0 : Array Value} {Z : State} (hw : HW a0 Z) : ((Jvm.Cond.methodLink "java/lang/Exception" (7 : Nat) ({ cls := "java/lang/Throwable", name := "<init>", desc := "(Ljava/lang/String;)V" } : Jvm.MethodName)) : Jvm.Cond).before a0 Z = true := hw _ (List.mem_of_getElem? (i := 164) rfl)
theorem wd165 {a0 : Array Value} {Z : State} (hw : HW a0 Z) : ((Jvm.Cond.instanceMethod ({ cls := "java/lang/Throwable", name := "<init>", desc := "(Ljava/lang/String;)V" } : Jvm.MethodName)) : Jvm.Cond).before a0 Z = true := hw _ (List.mem_of_getElem? (i := 165) rfl)
theorem d_jdk_59m2_5 : decode jdk_59_method_2_code 5 = .ok (.return_, 1) := by decide +kernel
def Q_thr1 (Z : State) (zC : Int32) (a1 : Addr) (a2 : Addr) (h0 : Heap) (v : Option Value) (h : Heap) (L : List Loc) : Prop := v = none ∧ Fr Z.heap.size L ∧ Keep h0 h [a1] ∧ Fld Z h a1 sT4 "detailMessage" "Ljava/lang/String;" (.ref a2)
theorem pn9 : plainName "java/lang/Exception" = true := by first | (simp [plainName, overriddenIn]; done) | decide +kernel
theorem rm_thr1 (l : Launch) (Z : State) (a0 : Array Value) (hw : HW a0 Z) (hl : l.stackTraces = true) (zC : Int32) (SC : tSC Z zC) (PC : ¬ zC = (0 : Int32)) (hX : ExW a0 Z) (a1 : Addr) (a2 : Addr) (h0 : Heap) (O0 : Old Z Z.heap.size h0) (Th : ThS Z h0) (Pe : Exa Z h0 a1 sT3) (Pu : Unt h0 a1) (Pg : Z.heap.size ≤ a1) (P0 : Fld Z h0 a1 sT4 "cause" "Ljava/lang/Throwable;" .null) (P1 : Fld Z h0 a1 sT4 "stackTrace" "[Ljava/lang/StackTraceElement;" .null) (P2 : Fld Z h0 a1 sT4 "suppressedExceptions" "Ljava/util/List;" .null) (P3 : Fld Z h0 a1 sT4 "backtrace" "Ljava/lang/Object;" .null) (P4 : Fld Z h0 a1 sT4 "detailMessage" "Ljava/lang/String;" .null) :
    ConK l Z EL (⟨"java/lang/Exception", "<init>", "(Ljava/lang/String;)V"⟩ : MethodName) jdk_59_method_2_code 2 none ({ frames := 4, cells := 1, slots := 2752, locals := 55 } : Room) #[(.ref a1), (.ref a2)] h0 [a1] (Q_thr1 Z zC a1 a2 h0) := by
  refine ConK.intro (plainFor_of_name pn9) ?_
  intro p e s m below meth c T0 v0 X0 hx hby hml hown0 hnm hret hlk hZ0 e0 hS0 C0 hsl0 hs0 hTK0 hBF0
  have hTh0 : ThS Z s.heap := hs0 ▸ Th
  have Ps := hsl0 a1 (by simp)
  have N0 := Fr.nil Z.heap.size
  refine castGo (g' := mkF m 0 #[.val (.ref a1), .val (.ref a2)] []) (by first | rfl | (simp [entryFrame, mkF, argsToLocals, Value.category]; done)) ?_
  show Go _ _ _ _ (T0.setTop (mkF m 0 #[.val (.ref a1), .val (.ref a2)] []))
  refine aL X0 hx (hb hby d_jdk_59m2_0) (q := 1) rfl rfl rfl ?_
  refine aL X0 hx (hb hby d_jdk_59m2_1) (q := 2) rfl rfl rfl ?_
  refine g_spS X0 hx hZ0 hown0 hS0 (Nat.zero_le _) (wd164 hw) (wd165 hw) (wd169 hw) rfl (by decide) e0 (ConK.back (W := 0) (rm_thr0 l Z a0 hw hl zC SC PC hX a1 a2 h0 O0 Th Pe Pu Pg P0 P1 P2 P3 P4) hZ0 (wd169 hw) (wd168 hw) (by decide) (by decide) (own_EW hw) C0.1 (sfS Ps sf0) (allS (Nat.lt_of_lt_of_le Pe.lt (Nat.le_refl _)) all0) (Vm.MethodsKnown.alikeC (hZ0.alike.symm.trans hZ0.alike) hTK0) (Vm.FramesKnown.alikeC (hZ0.alike.symm.trans hZ0.alike) hBF0)) (by rw [hml]; rfl) (lenOf pd3 rfl) rfl (Nat.le_of_eq rfl) (hb hby d_jdk_59m2_2) (q := 5) rfl (by decide) (by decide) ?_
  rintro v539 T539 L539 ⟨X539, hS539, hZ539, hown539, R539⟩ Q539
  obtain ⟨rfl, Nq539, K539q, q539_0⟩ := Q539
  have N539 := Fr.app N0 Nq539
  show Go _ _ _ _ (T539.setTop (mkF m 5 #[.val (.ref a1), .val (.ref a2)] []))
  have K540 : Keep h0 T539.heap [a1] := (Keep.refl h0 [a1]).trans K539q (allS (Or.inl (by simp)) all0)
  have f541 := C0.trans R539
  refine endC X539 hlk hS539 (Nat.le_trans (Nat.le_refl _) (Nat.le_refl _)) hZ539 (own_EW hw) f541 (fun _ => rfl) (lastV X539 hx hret (hb hby d_jdk_59m2_5)) ?_ (by decide) (by decide)
  exact ⟨rfl, N539, K540, q539_0⟩
theorem d_prog_4m1_0 : decode prog_4_method_1_code 0 = .ok (.aload_n 0, 1) := by decide +kernel
theorem d_prog_4m1_1 : decode prog_4_method_1_code 1 = .ok (.aload_n 1, 1) := by decide +kernel
theorem d_prog_4m1_2 : decode prog_4_method_1_code 2 = .ok (.invokespecial 1, 3) := by decide +kernel
theorem wd163 {a0 : Array Value} {Z : State} (hw : HW a0 Z) : ((Jvm.Cond.code ({ cls := "java/lang/Exception", name := "<init>", desc := "(Ljava/lang/String;)V" } : Jvm.MethodName) jdk_59_method_2_code (2 : Nat) (Option.none : Option Jvm.ClassFile.FieldType)) : Jvm.Cond).before a0 Z = true := hw _ (List.mem_of_getElem? (i := 163) rfl)
theorem wd162 {a0 : Array Value} {Z : State} (hw : HW a0 Z) : ((Jvm.Cond.initialized "java/lang/Exception") : Jvm.Cond).before a0 Z = true := hw _ (List.mem_of_getElem? (i := 162) rfl)
theorem wd159 {a0 : Array Value} {Z : State} (hw : HW a0 Z) : ((Jvm.Cond.methodLink "com/example/usage_throttle/usagethrottle/io/InvalidPolicyException" (1 : Nat) ({ cls := "java/lang/Exception", name := "<init>", desc := "(Ljava/lang/String;)V" } : Jvm.MethodName)) : Jvm.Cond).before a0 Z = true := hw _ (List.mem_of_getElem? (i := 159) rfl)
theorem wd160 {a0 : Array Value} {Z : State} (hw : HW a0 Z) : ((Jvm.Cond.instanceMethod ({ cls := "java/lang/Exception", name := "<init>", desc := "(Ljava/lang/String;)V" } : Jvm.MethodName)) : Jvm.Cond).before a0 Z = true := hw _ (List.mem_of_getElem? (i := 160) rfl)
theorem d_prog_4m1_5 : decode prog_4_method_1_code 5 = .ok (.return_, 1) := by decide +kernel
def Q_thr2 (Z : State) (zC : Int32) (a1 : Addr) (a2 : Addr) (h0 : Heap) (v : Option Value) (h : Heap) (L : List Loc) : Prop := v = none ∧ Fr Z.heap.size L ∧ Keep h0 h [a1] ∧ Fld Z h a1 sT4 "detailMessage" "Ljava/lang/String;" (.ref a2)
theorem pn10 : plainName "com/example/usage_throttle/usagethrottle/io/InvalidPolicyException" = true := by first | (simp [plainName, overriddenIn]; done) | decide +kernel
theorem rm_thr2 (l : Launch) (Z : State) (a0 : Array Value) (hw : HW a0 Z) (hl : l.stackTraces = true) (zC : Int32) (SC : tSC Z zC) (PC : ¬ zC = (0 : Int32)) (hX : ExW a0 Z) (a1 : Addr) (a2 : Addr) (h0 : Heap) (O0 : Old Z Z.heap.size h0) (Th : ThS Z h0) (Pe : Exa Z h0 a1 sT3) (Pu : Unt h0 a1) (Pg : Z.heap.size ≤ a1) (P0 : Fld Z h0 a1 sT4 "cause" "Ljava/lang/Throwable;" .null) (P1 : Fld Z h0 a1 sT4 "stackTrace" "[Ljava/lang/StackTraceElement;" .null) (P2 : Fld Z h0 a1 sT4 "suppressedExceptions" "Ljava/util/List;" .null) (P3 : Fld Z h0 a1 sT4 "backtrace" "Ljava/lang/Object;" .null) (P4 : Fld Z h0 a1 sT4 "detailMessage" "Ljava/lang/String;" .null) :
    ConK l Z EL (⟨sT3, "<init>", "(Ljava/lang/String;)V"⟩ : MethodName) prog_4_method_1_code 2 none ({ frames := 5, cells := 1, slots := 2752, locals := 68 } : Room) #[(.ref a1), (.ref a2)] h0 [a1] (Q_thr2 Z zC a1 a2 h0) := by
  refine ConK.intro (plainFor_of_name pn10) ?_
  intro p e s m below meth c T0 v0 X0 hx hby hml hown0 hnm hret hlk hZ0 e0 hS0 C0 hsl0 hs0 hTK0 hBF0
  have hTh0 : ThS Z s.heap := hs0 ▸ Th
  have Ps := hsl0 a1 (by simp)
  have N0 := Fr.nil Z.heap.size
  refine castGo (g' := mkF m 0 #[.val (.ref a1), .val (.ref a2)] []) (by first | rfl | (simp [entryFrame, mkF, argsToLocals, Value.category]; done)) ?_
  show Go _ _ _ _ (T0.setTop (mkF m 0 #[.val (.ref a1), .val (.ref a2)] []))
  refine aL X0 hx (hb hby d_prog_4m1_0) (q := 1) rfl rfl rfl ?_
  refine aL X0 hx (hb hby d_prog_4m1_1) (q := 2) rfl rfl rfl ?_
  refine g_spS X0 hx hZ0 hown0 hS0 (Nat.zero_le _) (wd159 hw) (wd160 hw) (wd163 hw) rfl (by decide) e0 (ConK.back (W := 0) (rm_thr1 l Z a0 hw hl zC SC PC hX a1 a2 h0 O0 Th Pe Pu Pg P0 P1 P2 P3 P4) hZ0 (wd163 hw) (wd162 hw) (by decide) (by decide) (own_EW hw) C0.1 (sfS Ps sf0) (allS (Nat.lt_of_lt_of_le Pe.lt (Nat.le_refl _)) all0) (Vm.MethodsKnown.alikeC (hZ0.alike.symm.trans hZ0.alike) hTK0) (Vm.FramesKnown.alikeC (hZ0.alike.symm.trans hZ0.alike) hBF0)) (by rw [hml]; rfl) (lenOf pd3 rfl) rfl (Nat.le_of_eq rfl) (hb hby d_prog_4m1_2) (q := 5) rfl (by decide) (by decide) ?_
  rintro v542 T542 L542 ⟨X542, hS542, hZ542, hown542, R542⟩ Q542
  obtain ⟨rfl, Nq542, K542q, q542_0⟩ := Q542
  have N542 := Fr.app N0 Nq542
  show Go _ _ _ _ (T542.setTop (mkF m 5 #[.val (.ref a1), .val (.ref a2)] []))
  have K543 : Keep h0 T542.heap [a1] := (Keep.refl h0 [a1]).trans K542q (allS (Or.inl (by simp)) all0)
  have f544 := C0.trans R542
  refine endC X542 hlk hS542 (Nat.le_trans (Nat.le_refl _) (Nat.le_refl _)) hZ542 (own_EW hw) f544 (fun _ => rfl) (lastV X542 hx hret (hb hby d_prog_4m1_5)) ?_ (by decide) (by decide)
  exact ⟨rfl, N542, K543, q542_0⟩
theorem d_prog_8m6_0 : decode prog_8_method_6_code 0 = .ok (.new 54, 3) := by decide +kernel
theorem wd27 {a0 : Array Value} {Z : State} (hw : HW a0 Z) : ((Jvm.Cond.classLink "com/example/usage_throttle/usagethrottle/io/PolicyFields" (54 : Nat) "com/example/usage_throttle/usagethrottle/io/InvalidPolicyException") : Jvm.Cond).before a0 Z = true := hw _ (List.mem_of_getElem? (i := 27) rfl)
theorem wd29 {a0 : Array Value} {Z : State} (hw : HW a0 Z) : ((Jvm.Cond.initialized "com/example/usage_throttle/usagethrottle/io/InvalidPolicyException") : Jvm.Cond).before a0 Z = true := hw _ (List.mem_of_getElem? (i := 29) rfl)
theorem wd204 {a0 : Array Value} {Z : State} (hw : HW a0 Z) : ((Jvm.Cond.lays "com/example/usage_throttle/usagethrottle/io/InvalidPolicyException" "java/lang/Throwable" "depth" "I") : Jvm.Cond).before a0 Z = true := hw _ (List.mem_of_getElem? (i := 204) rfl)
theorem d_prog_8m6_3 : decode prog_8_method_6_code 3 = .ok (.dup, 1) := by decide +kernel
theorem d_prog_8m6_4 : decode prog_8_method_6_code 4 = .ok (.new 56, 3) := by decide +kernel
theorem wd30 {a0 : Array Value} {Z : State} (hw : HW a0 Z) : ((Jvm.Cond.classLink "com/example/usage_throttle/usagethrottle/io/PolicyFields" (56 : Nat) "java/lang/StringBuilder") : Jvm.Cond).before a0 Z = true := hw _ (List.mem_of_getElem? (i := 30) rfl)
theorem d_prog_8m6_7 : decode prog_8_method_6_code 7 = .ok (.dup, 1) := by decide +kernel
theorem d_prog_8m6_8 : decode prog_8_method_6_code 8 = .ok (.invokespecial 58, 3) := by decide +kernel
theorem wd35 {a0 : Array Value} {Z : State} (hw : HW a0 Z) : ((Jvm.Cond.code ({ cls := "java/lang/StringBuilder", name := "<init>", desc := "()V" } : Jvm.MethodName) jdk_67_method_1_code (1 : Nat) (Option.none : Option Jvm.ClassFile.FieldType)) : Jvm.Cond).before a0 Z = true := hw _ (List.mem_of_getElem? (i := 35) rfl)
theorem pd22 : parseMethodDescriptor "()V" = some ⟨[], none⟩ := by decide +kernel
theorem wd33 {a0 : Array Value} {Z : State} (hw : HW a0 Z) : ((Jvm.Cond.methodLink "com/example/usage_throttle/usagethrottle/io/PolicyFields" (58 : Nat) ({ cls := "java/lang/StringBuilder", name := "<init>", desc := "()V" } : Jvm.MethodName)) : Jvm.Cond).before a0 Z = true := hw _ (List.mem_of_getElem? (i := 33) rfl)
theorem wd34 {a0 : Array Value} {Z : State} (hw : HW a0 Z) : ((Jvm.Cond.instanceMethod ({ cls := "java/lang/StringBuilder", name := "<init>", desc := "()V" } : Jvm.MethodName)) : Jvm.Cond).before a0 Z = true := hw _ (List.mem_of_getElem? (i := 34) rfl)
theorem d_prog_8m6_11 : decode prog_8_method_6_code 11 = .ok (.ldc 223, 2) := by decide +kernel
theorem d_prog_8m6_13 : decode prog_8_method_6_code 13 = .ok (.invokevirtual 61, 3) := by decide +kernel
theorem wd49 {a0 : Array Value} {Z : State} (hw : HW a0 Z) : ((Jvm.Cond.methodLink "com/example/usage_throttle/usagethrottle/io/PolicyFields" (61 : Nat) ({ cls := "java/lang/StringBuilder", name := "append", desc := "(Ljava/lang/String;)Ljava/lang/StringBuilder;" } : Jvm.MethodName)) : Jvm.Cond).before a0 Z = true := hw _ (List.mem_of_getElem? (i := 49) rfl)
theorem d_prog_8m6_16 : decode prog_8_method_6_code 16 = .ok (.aload_n 0, 1) := by decide +kernel
theorem d_prog_8m6_17 : decode prog_8_method_6_code 17 = .ok (.invokevirtual 225, 3) := by decide +kernel
theorem wd101 {a0 : Array Value} {Z : State} (hw : HW a0 Z) : ((Jvm.Cond.code ({ cls := "java/lang/StringBuilder", name := "append", desc := "(Ljava/lang/Object;)Ljava/lang/StringBuilder;" } : Jvm.MethodName) jdk_67_method_6_code (2 : Nat) (Option.some (Jvm.ClassFile.FieldType.object "java/lang/StringBuilder"))) : Jvm.Cond).before a0 Z = true := hw _ (List.mem_of_getElem? (i := 101) rfl)
theorem pd23 : parseMethodDescriptor "(Ljava/lang/Object;)Ljava/lang/StringBuilder;" = some ⟨[(.object "java/lang/Object")], some (.object "java/lang/StringBuilder")⟩ := by decide +kernel
theorem wd100 {a0 : Array Value} {Z : State} (hw : HW a0 Z) : ((Jvm.Cond.selects "java/lang/StringBuilder" ({ cls := "java/lang/StringBuilder", name := "append", desc := "(Ljava/lang/Object;)Ljava/lang/StringBuilder;" } : Jvm.MethodName) ({ cls := "java/lang/StringBuilder", name := "append", desc := "(Ljava/lang/Object;)Ljava/lang/StringBuilder;" } : Jvm.MethodName)) : Jvm.Cond).before a0 Z = true := hw _ (List.mem_of_getElem? (i := 100) rfl)
theorem wd97 {a0 : Array Value} {Z : State} (hw : HW a0 Z) : ((Jvm.Cond.methodLink "com/example/usage_throttle/usagethrottle/io/PolicyFields" (225 : Nat) ({ cls := "java/lang/StringBuilder", name := "append", desc := "(Ljava/lang/Object;)Ljava/lang/StringBuilder;" } : Jvm.MethodName)) : Jvm.Cond).before a0 Z = true := hw _ (List.mem_of_getElem? (i := 97) rfl)
theorem wd98 {a0 : Array Value} {Z : State} (hw : HW a0 Z) : ((Jvm.Cond.declares ({ cls := "java/lang/StringBuilder", name := "append", desc := "(Ljava/lang/Object;)Ljava/lang/StringBuilder;" } : Jvm.MethodName)) : Jvm.Cond).before a0 Z = true := hw _ (List.mem_of_getElem? (i := 98) rfl)
theorem wd99 {a0 : Array Value} {Z : State} (hw : HW a0 Z) : ((Jvm.Cond.instanceMethod ({ cls := "java/lang/StringBuilder", name := "append", desc := "(Ljava/lang/Object;)Ljava/lang/StringBuilder;" } : Jvm.MethodName)) : Jvm.Cond).before a0 Z = true := hw _ (List.mem_of_getElem? (i := 99) rfl)
theorem d_prog_8m6_20 : decode prog_8_method_6_code 20 = .ok (.ldc 65, 2) := by decide +kernel
theorem d_prog_8m6_22 : decode prog_8_method_6_code 22 = .ok (.invokevirtual 61, 3) := by decide +kernel
theorem d_prog_8m6_25 : decode prog_8_method_6_code 25 = .ok (.invokevirtual 67, 3) := by decide +kernel
theorem wd117 {a0 : Array Value} {Z : State} (hw : HW a0 Z) : ((Jvm.Cond.code ({ cls := "java/lang/StringBuilder", name := "toString", desc := "()Ljava/lang/String;" } : Jvm.MethodName) jdk_67_method_42_code (1 : Nat) (Option.some (Jvm.ClassFile.FieldType.object "java/lang/String"))) : Jvm.Cond).before a0 Z = true := hw _ (List.mem_of_getElem? (i := 117) rfl)
theorem wd116 {a0 : Array Value} {Z : State} (hw : HW a0 Z) : ((Jvm.Cond.selects "java/lang/StringBuilder" ({ cls := "java/lang/StringBuilder", name := "toString", desc := "()Ljava/lang/String;" } : Jvm.MethodName) ({ cls := "java/lang/StringBuilder", name := "toString", desc := "()Ljava/lang/String;" } : Jvm.MethodName)) : Jvm.Cond).before a0 Z = true := hw _ (List.mem_of_getElem? (i := 116) rfl)
theorem wd113 {a0 : Array Value} {Z : State} (hw : HW a0 Z) : ((Jvm.Cond.methodLink "com/example/usage_throttle/usagethrottle/io/PolicyFields" (67 : Nat) ({ cls := "java/lang/StringBuilder", name := "toString", desc := "()Ljava/lang/String;" } : Jvm.MethodName)) : Jvm.Cond).before a0 Z = true := hw _ (List.mem_of_getElem? (i := 113) rfl)
theorem wd114 {a0 : Array Value} {Z : State} (hw : HW a0 Z) : ((Jvm.Cond.declares ({ cls := "java/lang/StringBuilder", name := "toString", desc := "()Ljava/lang/String;" } : Jvm.MethodName)) : Jvm.Cond).before a0 Z = true := hw _ (List.mem_of_getElem? (i := 114) rfl)
theorem wd115 {a0 : Array Value} {Z : State} (hw : HW a0 Z) : ((Jvm.Cond.instanceMethod ({ cls := "java/lang/StringBuilder", name := "toString", desc := "()Ljava/lang/String;" } : Jvm.MethodName)) : Jvm.Cond).before a0 Z = true := hw _ (List.mem_of_getElem? (i := 115) rfl)
theorem d_prog_8m6_28 : decode prog_8_method_6_code 28 = .ok (.invokespecial 71, 3) := by decide +kernel
theorem wd158 {a0 : Array Value} {Z : State} (hw : HW a0 Z) : ((Jvm.Cond.code ({ cls := "com/example/usage_throttle/usagethrottle/io/InvalidPolicyException", name := "<init>", desc := "(Ljava/lang/String;)V" } : Jvm.MethodName) prog_4_method_1_code (2 : Nat) (Option.none : Option Jvm.ClassFile.FieldType)) : Jvm.Cond).before a0 Z = true := hw _ (List.mem_of_getElem? (i := 158) rfl)
theorem wd156 {a0 : Array Value} {Z : State} (hw : HW a0 Z) : ((Jvm.Cond.methodLink "com/example/usage_throttle/usagethrottle/io/PolicyFields" (71 : Nat) ({ cls := "com/example/usage_throttle/usagethrottle/io/InvalidPolicyException", name := "<init>", desc := "(Ljava/lang/String;)V" } : Jvm.MethodName)) : Jvm.Cond).before a0 Z = true := hw _ (List.mem_of_getElem? (i := 156) rfl)
theorem wd157 {a0 : Array Value} {Z : State} (hw : HW a0 Z) : ((Jvm.Cond.instanceMethod ({ cls := "com/example/usage_throttle/usagethrottle/io/InvalidPolicyException", name := "<init>", desc := "(Ljava/lang/String;)V" } : Jvm.MethodName)) : Jvm.Cond).before a0 Z = true := hw _ (List.mem_of_getElem? (i := 157) rfl)
theorem d_prog_8m6_31 : decode prog_8_method_6_code 31 = .ok (.areturn, 1) := by decide +kernel
def Q_uf0 (Z : State) (zC : Int32) (a2 : Addr) (t : Addr) (kt : ClassId) (h0 : Heap) (v : Option Value) (h : Heap) (L : List Loc) : Prop := ∃ (r : Addr), ∃ (m : Addr), ∃ (c : Addr), ∃ (kc : ClassId), v = some (.ref r) ∧ Fr Z.heap.size L ∧ Keep h0 h [] ∧ h0.size ≤ r ∧ Exa Z h r sT3 ∧ Fld Z h r sT4 "detailMessage" "Ljava/lang/String;" (.ref m) ∧ Exa Z h m sT1 ∧ Fld Z h m sT1 "coder" "B" (iv 0) ∧ Fld Z h m sT1 "value" "[B" (.ref c) ∧ Arv Z h c kc .byte (16 : Int32) [(iv 117), (iv 110), (iv 107), (iv 110), (iv 111), (iv 119), (iv 110), (iv 32), (iv 102), (iv 105), (iv 101), (iv 108), (iv 100), (iv 32), (iv 39), (iv 39)] (.int 0)
theorem pn11 : plainName "com/example/usage_throttle/usagethrottle/io/PolicyFields" = true := by first | (simp [plainName, overriddenIn]; done) | decide +kernel
theorem rm_uf0 (l : Launch) (Z : State) (a0 : Array Value) (hw : HW a0 Z) (hl : l.stackTraces = true) (zC : Int32) (SC : tSC Z zC) (PC : ¬ zC = (0 : Int32)) (hX : ExW a0 Z) (a2 : Addr) (t : Addr) (kt : ClassId) (h0 : Heap) (O0 : Old Z Z.heap.size h0) (Th : ThS Z h0) (Pe : Exa Z h0 a2 sT1) (Pc : Fld Z h0 a2 sT1 "coder" "B" (iv 0)) (Pv : Fld Z h0 a2 sT1 "value" "[B" (.ref t)) (Pa : Arv Z h0 t kt .byte (0 : Int32) [] (.int 0)) :
    ConK l Z EL (⟨"com/example/usage_throttle/usagethrottle/io/PolicyFields", "unknownField", sT5⟩ : MethodName) prog_8_method_6_code 1 (some (.object sT3)) ({ frames := 6, cells := 10, slots := 2870, locals := 102 } : Room) #[(.ref a2)] h0 [] (Q_uf0 Z zC a2 t kt h0) := by
  refine ConK.intro (plainFor_of_name pn11) ?_
  intro p e s m below meth c T0 v0 X0 hx hby hml hown0 hnm hret hlk hZ0 e0 hS0 C0 hsl0 hs0 hTK0 hBF0
  have hTh0 : ThS Z s.heap := hs0 ▸ Th
  have N0 := Fr.nil Z.heap.size
  refine castGo (g' := mkF m 0 #[.val (.ref a2)] []) (by first | rfl | (simp [entryFrame, mkF, argsToLocals, Value.category]; done)) ?_
  show Go _ _ _ _ (T0.setTop (mkF m 0 #[.val (.ref a2)] []))
  refine g_newU X0 hx hZ0 hown0 (wd27 hw) (wd28 hw) (wd29 hw) (by decide) (by decide) e0 (hb hby d_prog_8m6_0) (q := 3) rfl ?_
  intro T545 h545 b545 g545 X545 e545 E545 A545 D545 U545
  have sf546 : Safe Z EL v0 h0 b545 := Safe.new (Nat.le_of_eq g545.symm)
  have F545_172 := D545 (Or.inl (wd172 hw)) (ty := (.object sT4)) (by decide)
  have F545_175 := D545 (Or.inl (wd175 hw)) (ty := (.array (.object "java/lang/StackTraceElement"))) (by decide)
  have F545_178 := D545 (Or.inl (wd178 hw)) (ty := (.object "java/util/List")) (by decide)
  have F545_202 := D545 (Or.inl (wd202 hw)) (ty := (.object sT1)) (by decide)
  have F545_203 := D545 (Or.inl (wd203 hw)) (ty := (.object "java/lang/Object")) (by decide)
  have F545_204 := D545 (Or.inl (wd204 hw)) (ty := .int) (by decide)
  refine g_dup X545 hx (hb hby d_prog_8m6_3) (q := 4) rfl rfl ?_
  refine g_new X545 hx hZ0 hown0 (wd30 hw) (wd31 hw) (wd32 hw) (by decide) (by decide) e545 (hb hby d_prog_8m6_4) (q := 7) rfl ?_
  intro T547 h547 b547 g547 X547 e547 E547 A547 D547
  have sf548 : Safe Z EL v0 h545 b547 := Safe.new (Nat.le_of_eq g547.symm)
  have F547_45 := D547 (Or.inl (wd45 hw)) (ty := (.array .byte)) (by decide)
  have F547_47 := D547 (Or.inl (wd47 hw)) (ty := .byte) (by decide)
  have F547_71 := D547 (Or.inl (wd71 hw)) (ty := .int) (by decide)
  refine g_dup X547 hx (hb hby d_prog_8m6_7) (q := 8) rfl rfl ?_
  have f553 := O0.ext E545
  have gz552 : Z.heap.size ≤ b547 := Nat.le_trans f553.2.1 (Nat.le_of_eq g547.symm)
  have f554 := f553.ext E547
  have f555 := C0.trans (CHr.ext E545 C0.1)
  have f556 := Safe.ext E547 f555.1 sf548
  refine g_sp X547 hx hZ0 hown0 (wd33 hw) (wd34 hw) (wd35 hw) rfl (by decide) e547 (Con.back (W := 3) (rm_sbinit l Z a0 hw hl zC SC PC hX b547 h547 f554 A547 F547_45 F547_47 F547_71 gz552) hZ0 (wd35 hw) (wd32 hw) (by decide) (by decide)) (by rw [hml]; rfl) (lenOf pd22 rfl) rfl (Nat.le_of_eq rfl) (hb hby d_prog_8m6_8) (q := 11) rfl (by decide) (by decide) ?_
  intro v551 T551 L551 X551 Q551
  obtain ⟨vv_551, kv_551, rfl, Nq551, K551q, q551_0, q551_1, q551_2, q551_3, q551_4, q551_5, q551_6⟩ := Q551
  have N551 := Fr.app N0 Nq551
  show Go _ _ _ _ (T551.setTop (mkF m 11 #[.val (.ref a2)] [(.ref b547), (.ref b545), (.ref b545)]))
  have f558 := f555.trans (CHr.ext E547 f555.1)
  have f559 := f558.trans (CHr.keep K551q (sfS f556 sf0) f558.1)
  refine g_ldc X551 hx hZ0 hown0 (wd48 hw) (own_wS hw) hS0 (Nat.zero_le _) (own_EW hw) (by simp [EL]) f559.1 (vs := [(iv 117), (iv 110), (iv 107), (iv 110), (iv 111), (iv 119), (iv 110), (iv 32), (iv 102), (iv 105), (iv 101), (iv 108), (iv 100), (iv 32), (iv 39)]) (z := (15 : Int32)) ⟨by decide, by decide⟩ (by decide) (by decide) (n := 60) (by decide) (by decide) (by decide) (by decide) rfl (hb hby d_prog_8m6_11) (q := 13) rfl ?_
  intro b557 T557 h557 kk557 d557 k557 X557 e557 E557 hS557 hk557 hZ557 hown557 A557 Fc557 Fv557 V557 lta557 ltb557 R557 sn557
  have f567 := q551_0.ext E557
  have f568 := q551_2.ext E557
  have f569 := q551_3.ext E557
  have f570 := q551_1.ext E557
  have f571 := q551_5.ext E557
  have gz572 : Z.heap.size ≤ vv_551 := Nat.le_trans f554.2.1 q551_4
  have f573 := f554.keep K551q (allS gz552 all0)
  have f574 := f573.ext E557
  have f575 := Safe.keep K551q (sfS f556 sf0) f558.1 f556
  have le576 := K551q.1
  have f577 := R557.safe (Nat.lt_of_lt_of_le A547.lt le576) f575
  refine g_vi X557 hx hZ557 hown557 (wd49 hw) (wd50 hw) (notFace_of_selects (args := #[]) (mvT hZ557 (wd52 hw))) (wd52 hw) (wd51 hw) (by decide) f567 e557 (Con.back (W := 2) (rm_sapA l Z a0 hw hl zC SC PC hX b547 vv_551 kv_551 (List.replicate 16 (iv 0)) b557 d557 k557 [(iv 117), (iv 110), (iv 107), (iv 110), (iv 111), (iv 119), (iv 110), (iv 32), (iv 102), (iv 105), (iv 101), (iv 108), (iv 100), (iv 32), (iv 39)] h557 f574 f567 f568 f569 f570 f571 rfl gz552 gz572 A557 Fc557 Fv557 V557 rfl) hZ557 (wd53 hw) (wd32 hw) (by decide) (by decide)) (by rw [hml]; rfl) (lenOf pd21 rfl) rfl (Nat.le_of_eq rfl) (hb hby d_prog_8m6_13) (q := 16) rfl (by decide) (by decide) ?_
  intro v566 T566 L566 X566 Q566
  obtain ⟨rfl, Nq566, K566q, q566_0, q566_1, q566_2, q566_3, q566_4, q566_5⟩ := Q566
  have N566 := Fr.app N551 Nq566
  have eq566_4 : Arv Z T566.heap vv_551 kv_551 .byte (16 : Int32) [(iv 117), (iv 110), (iv 107), (iv 110), (iv 111), (iv 119), (iv 110), (iv 32), (iv 102), (iv 105), (iv 101), (iv 108), (iv 100), (iv 32), (iv 39), (iv 0)] (.int 0) := q566_4
  show Go _ _ _ _ (T566.setTop (mkF m 16 #[.val (.ref a2)] [(.ref b547), (.ref b545), (.ref b545)]))
  refine aL X566 hx (hb hby d_prog_8m6_16) (q := 17) rfl rfl rfl ?_
  have f605 := Pe.ext E545
  have f606 := f605.ext E547
  have f607 := f606.keep K551q
  have f608 := f607.ext E557
  have f609 := f608.keep K566q
  have f610 := Pc.ext E545
  have f611 := f610.ext E547
  have le612 := E545.1
  have ne613 : a2 ≠ b547 := (Nat.ne_of_lt (Nat.lt_of_lt_of_le (Nat.lt_of_lt_of_le Pe.lt le612) (Nat.le_of_eq g547.symm)))
  have f614 := f611.keep K551q (ninS ne613 nin0)
  have f615 := f614.ext E557
  have le616 := (Nat.le_trans le612 E547.1)
  have ne617 : a2 ≠ vv_551 := (Nat.ne_of_lt (Nat.lt_of_lt_of_le (Nat.lt_of_lt_of_le Pe.lt le616) q551_4))
  have f618 := f615.keep K566q (ninS ne613 (ninS ne617 nin0))
  have f619 := Pv.ext E545
  have f620 := f619.ext E547
  have f621 := f620.keep K551q (ninS ne613 nin0)
  have f622 := f621.ext E557
  have f623 := f622.keep K566q (ninS ne613 (ninS ne617 nin0))
  have f624 := Pa.ext E545
  have f625 := f624.ext E547
  have ne626 : t ≠ b547 := (Nat.ne_of_lt (Nat.lt_of_lt_of_le (Nat.lt_of_lt_of_le Pa.lt le612) (Nat.le_of_eq g547.symm)))
  have f627 := f625.keep K551q (ninS ne626 nin0)
  have f628 := f627.ext E557
  have ne629 : t ≠ vv_551 := (Nat.ne_of_lt (Nat.lt_of_lt_of_le (Nat.lt_of_lt_of_le Pa.lt le616) q551_4))
  have f630 := f628.keep K566q (ninS ne626 (ninS ne629 nin0))
  have f631 := f574.keep K566q (allS gz552 (allS gz572 all0))
  have f632 := f559.trans R557
  have f633 := Safe.keep K566q (sfS f577 (sfS (safe_len hZ557 f571 (own_LN hw _ (by decide))) sf0)) f632.1 f577
  refine g_vi X566 hx hZ557 hown557 (wd97 hw) (wd98 hw) (notFace_of_selects (args := #[]) (mvT hZ557 (wd100 hw))) (wd100 hw) (wd99 hw) (by decide) q566_0 rfl (Con.back (W := 2) (rm_apoB l Z a0 hw hl zC SC PC hX b547 vv_551 kv_551 [(iv 117), (iv 110), (iv 107), (iv 110), (iv 111), (iv 119), (iv 110), (iv 32), (iv 102), (iv 105), (iv 101), (iv 108), (iv 100), (iv 32), (iv 39), (iv 0)] a2 t kt [] (0 : Int32) T566.heap f631 q566_0 q566_1 q566_2 q566_3 eq566_4 rfl gz552 gz572 f609 f618 f623 f630 rfl (by decide)) hZ557 (wd101 hw) (wd32 hw) (by decide) (by decide)) (by rw [hml]; rfl) (lenOf pd23 rfl) rfl (Nat.le_of_eq rfl) (hb hby d_prog_8m6_17) (q := 20) rfl (by decide) (by decide) ?_
  intro v604 T604 L604 X604 Q604
  obtain ⟨rfl, Nq604, K604q, q604_0, q604_1, q604_2, q604_3, q604_4, q604_5⟩ := Q604
  have N604 := Fr.app N566 Nq604
  have eq604_2 : Fld Z T604.heap b547 sT0 "count" "I" (iv 15) := by have := q604_2; rwa [show ((15 : Int32) + (0 : Int32)) = (15 : Int32) from by decide] at this
  have eq604_4 : Arv Z T604.heap vv_551 kv_551 .byte (16 : Int32) [(iv 117), (iv 110), (iv 107), (iv 110), (iv 111), (iv 119), (iv 110), (iv 32), (iv 102), (iv 105), (iv 101), (iv 108), (iv 100), (iv 32), (iv 39), (iv 0)] (.int 0) := q604_4
  show Go _ _ _ _ (T604.setTop (mkF m 20 #[.val (.ref a2)] [(.ref b547), (.ref b545), (.ref b545)]))
  have f635 := f632.trans (CHr.keep K566q (sfS f577 (sfS (safe_len hZ557 f571 (own_LN hw _ (by decide))) sf0)) f632.1)
  have f636 := f635.trans (CHr.keep K604q (sfS f633 (sfS (safe_len hZ557 eq566_4 (own_LN hw _ (by decide))) sf0)) f635.1)
  have le637 := K566q.1
  have le638 := (Nat.le_trans le637 K604q.1)
  refine g_ldc X604 hx hZ557 hown557 (wd112 hw) (own_wS hw) hS557 (Nat.le_trans hk557 le638) (own_EW hw) (by simp [EL]) f636.1 (vs := [(iv 39)]) (z := (1 : Int32)) ⟨by decide, by decide⟩ (by decide) (by decide) (n := 4) (by decide) (by decide) (by decide) (by decide) rfl (hb hby d_prog_8m6_20) (q := 22) rfl ?_
  intro b634 T634 h634 kk634 d634 k634 X634 e634 E634 hS634 hk634 hZ634 hown634 A634 Fc634 Fv634 V634 lta634 ltb634 R634 sn634
  have f647 := q604_0.ext E634
  have f648 := q604_1.ext E634
  have f649 := eq604_2.ext E634
  have f650 := q604_3.ext E634
  have f651 := eq604_4.ext E634
  have f652 := f631.keep K604q (allS gz552 (allS gz572 all0))
  have f653 := f652.ext E634
  have f654 := Safe.keep K604q (sfS f633 (sfS (safe_len hZ557 eq566_4 (own_LN hw _ (by decide))) sf0)) f635.1 f633
  have le655 := (Nat.le_trans le576 E557.1)
  have le656 := (Nat.le_trans le655 K566q.1)
  have le657 := (Nat.le_trans le656 K604q.1)
  have f658 := R634.safe (Nat.lt_of_lt_of_le A547.lt le657) f654
  refine g_vi X634 hx hZ634 hown634 (wd49 hw) (wd50 hw) (notFace_of_selects (args := #[]) (mvT hZ634 (wd52 hw))) (wd52 hw) (wd51 hw) (by decide) f647 e634 (Con.back (W := 2) (rm_sapB l Z a0 hw hl zC SC PC hX b547 vv_551 kv_551 [(iv 117), (iv 110), (iv 107), (iv 110), (iv 111), (iv 119), (iv 110), (iv 32), (iv 102), (iv 105), (iv 101), (iv 108), (iv 100), (iv 32), (iv 39), (iv 0)] b634 d634 k634 [(iv 39)] (1 : Int32) h634 f653 f647 f648 f649 f650 f651 rfl gz552 gz572 A634 Fc634 Fv634 V634 rfl (by decide)) hZ634 (wd53 hw) (wd32 hw) (by decide) (by decide)) (by rw [hml]; rfl) (lenOf pd21 rfl) rfl (Nat.le_of_eq rfl) (hb hby d_prog_8m6_22) (q := 25) rfl (by decide) (by decide) ?_
  intro v646 T646 L646 X646 Q646
  obtain ⟨rfl, Nq646, K646q, q646_0, q646_1, q646_2, q646_3, q646_4, q646_5⟩ := Q646
  have N646 := Fr.app N604 Nq646
  have eq646_2 : Fld Z T646.heap b547 sT0 "count" "I" (iv 16) := by have := q646_2; rwa [show ((15 : Int32) + (1 : Int32)) = (16 : Int32) from by decide] at this
  have eq646_4 : Arv Z T646.heap vv_551 kv_551 .byte (16 : Int32) [(iv 117), (iv 110), (iv 107), (iv 110), (iv 111), (iv 119), (iv 110), (iv 32), (iv 102), (iv 105), (iv 101), (iv 108), (iv 100), (iv 32), (iv 39), (iv 39)] (.int 0) := q646_4
  show Go _ _ _ _ (T646.setTop (mkF m 25 #[.val (.ref a2)] [(.ref b547), (.ref b545), (.ref b545)]))
  have f665 := q551_6.ext E557
  have f666 := f665.keep K566q
  have f667 := f666.keep K604q
  have f668 := f667.ext E634
  have f669 := f668.keep K646q
  have f670 := f653.keep K646q (allS gz552 (allS gz572 all0))
  refine g_vi X646 hx hZ634 hown634 (wd113 hw) (wd114 hw) (notFace_of_selects (args := #[]) (mvT hZ634 (wd116 hw))) (wd116 hw) (wd115 hw) (by decide) q646_0 rfl (Con.back (W := 2) (rm_tosA l Z a0 hw hl zC SC PC hX b547 vv_551 kv_551 [(iv 117), (iv 110), (iv 107), (iv 110), (iv 111), (iv 119), (iv 110), (iv 32), (iv 102), (iv 105), (iv 101), (iv 108), (iv 100), (iv 32), (iv 39), (iv 39)] T646.heap f670 q646_0 q646_1 eq646_2 q646_3 eq646_4 rfl f669) hZ634 (wd117 hw) (wd32 hw) (by decide) (by decide)) (by rw [hml]; rfl) (lenOf pd19 rfl) rfl (Nat.le_of_eq rfl) (hb hby d_prog_8m6_25) (q := 28) rfl (by decide) (by decide) ?_
  intro v664 T664 L664 X664 Q664
  obtain ⟨r_664, c_664, kc_664, rfl, Nq664, K664q, q664_0, q664_1, q664_2, q664_3, q664_4, q664_5⟩ := Q664
  have N664 := Fr.app N646 Nq664
  show Go _ _ _ _ (T664.setTop (mkF m 28 #[.val (.ref a2)] [(.ref r_664), (.ref b545), (.ref b545)]))
  have f756 := ThS.ext E545 Th
  have f757 := ThS.ext E547 f756
  have f758 := ThS.keep K551q (nsS (Exa.nostat A547) ns0) f757
  have f759 := ThS.ext E557 f758
  have f760 := ThS.keep K566q (nsS (Exa.nostat f567) (nsS (Exa.nostat f665) ns0)) f759
  have f761 := ThS.keep K604q (nsS (Exa.nostat q566_0) (nsS (Exa.nostat f666) ns0)) f760
  have f762 := ThS.ext E634 f761
  have f763 := ThS.keep K646q (nsS (Exa.nostat f647) (nsS (Exa.nostat f668) ns0)) f762
  have f764 := ThS.keep K664q ns0 f763
  have f765 := A545.ext E547
  have f766 := f765.keep K551q
  have f767 := f766.ext E557
  have f768 := f767.keep K566q
  have f769 := f768.keep K604q
  have f770 := f769.ext E634
  have f771 := f770.keep K646q
  have f772 := f771.keep K664q
  have f773 := Unt.ext E547 U545
  have ne774 : b545 ≠ b547 := (Nat.ne_of_lt (Nat.lt_of_lt_of_le (Nat.lt_of_lt_of_le A545.lt (Nat.le_refl _)) (Nat.le_of_eq g547.symm)))
  have f775 := Unt.keep K551q (ninS ne774 nin0) f773
  have f776 := Unt.ext E557 f775
  have le777 := E547.1
  have ne778 : b545 ≠ vv_551 := (Nat.ne_of_lt (Nat.lt_of_lt_of_le (Nat.lt_of_lt_of_le A545.lt le777) q551_4))
  have f779 := Unt.keep K566q (ninS ne774 (ninS ne778 nin0)) f776
  have f780 := Unt.keep K604q (ninS ne774 (ninS ne778 nin0)) f779
  have f781 := Unt.ext E634 f780
  have f782 := Unt.keep K646q (ninS ne774 (ninS ne778 nin0)) f781
  have f783 := Unt.keep K664q nin0 f782
  have gz784 : Z.heap.size ≤ b545 := Nat.le_trans O0.2.1 (Nat.le_of_eq g545.symm)
  have f785 := Safe.ext E545 C0.1 sf546
  have f786 := Safe.ext E547 f555.1 f785
  have f787 := Safe.keep K551q (sfS f556 sf0) f558.1 f786
  have le788 := (Nat.le_trans le777 K551q.1)
  have f789 := R557.safe (Nat.lt_of_lt_of_le A545.lt le788) f787
  have f790 := Safe.keep K566q (sfS f577 (sfS (safe_len hZ557 f571 (own_LN hw _ (by decide))) sf0)) f632.1 f789
  have f791 := Safe.keep K604q (sfS f633 (sfS (safe_len hZ557 eq566_4 (own_LN hw _ (by decide))) sf0)) f635.1 f790
  have le792 := (Nat.le_trans le788 E557.1)
  have le793 := (Nat.le_trans le792 K566q.1)
  have le794 := (Nat.le_trans le793 K604q.1)
  have f795 := R634.safe (Nat.lt_of_lt_of_le A545.lt le794) f791
  have f796 := f636.trans R634
  have f797 := Safe.keep K646q (sfS f658 (sfS (safe_len hZ634 f651 (own_LN hw _ (by decide))) sf0)) f796.1 f795
  have f798 := f796.trans (CHr.keep K646q (sfS f658 (sfS (safe_len hZ634 f651 (own_LN hw _ (by decide))) sf0)) f796.1)
  have f799 := Safe.keep K664q sf0 f798.1 f797
  have f800 := F545_172.ext E547
  have f801 := f800.keep K551q (ninS ne774 nin0)
  have f802 := f801.ext E557
  have f803 := f802.keep K566q (ninS ne774 (ninS ne778 nin0))
  have f804 := f803.keep K604q (ninS ne774 (ninS ne778 nin0))
  have f805 := f804.ext E634
  have f806 := f805.keep K646q (ninS ne774 (ninS ne778 nin0))
  have f807 := f806.keep K664q nin0
  have f808 := F545_175.ext E547
  have f809 := f808.keep K551q (ninS ne774 nin0)
  have f810 := f809.ext E557
  have f811 := f810.keep K566q (ninS ne774 (ninS ne778 nin0))
  have f812 := f811.keep K604q (ninS ne774 (ninS ne778 nin0))
  have f813 := f812.ext E634
  have f814 := f813.keep K646q (ninS ne774 (ninS ne778 nin0))
  have f815 := f814.keep K664q nin0
  have f816 := F545_178.ext E547
  have f817 := f816.keep K551q (ninS ne774 nin0)
  have f818 := f817.ext E557
  have f819 := f818.keep K566q (ninS ne774 (ninS ne778 nin0))
  have f820 := f819.keep K604q (ninS ne774 (ninS ne778 nin0))
  have f821 := f820.ext E634
  have f822 := f821.keep K646q (ninS ne774 (ninS ne778 nin0))
  have f823 := f822.keep K664q nin0
  have f824 := F545_203.ext E547
  have f825 := f824.keep K551q (ninS ne774 nin0)
  have f826 := f825.ext E557
  have f827 := f826.keep K566q (ninS ne774 (ninS ne778 nin0))
  have f828 := f827.keep K604q (ninS ne774 (ninS ne778 nin0))
  have f829 := f828.ext E634
  have f830 := f829.keep K646q (ninS ne774 (ninS ne778 nin0))
  have f831 := f830.keep K664q nin0
  have f832 := F545_202.ext E547
  have f833 := f832.keep K551q (ninS ne774 nin0)
  have f834 := f833.ext E557
  have f835 := f834.keep K566q (ninS ne774 (ninS ne778 nin0))
  have f836 := f835.keep K604q (ninS ne774 (ninS ne778 nin0))
  have f837 := f836.ext E634
  have f838 := f837.keep K646q (ninS ne774 (ninS ne778 nin0))
  have f839 := f838.keep K664q nin0
  have f840 := f670.keep K664q all0
  have f841 := f798.trans (CHr.keep K664q sf0 f798.1)
  have le842 := (Nat.le_trans le794 E634.1)
  have le843 := (Nat.le_trans le842 K646q.1)
  have le844 := (Nat.le_trans le843 K664q.1)
  have le845 := K646q.1
  have le846 := (Nat.le_trans le845 K664q.1)
  refine g_spS X664 hx hZ634 hown634 hS634 (Nat.le_trans hk634 le846) (wd156 hw) (wd157 hw) (wd158 hw) rfl (by decide) rfl (ConK.back (W := 1) (rm_thr2 l Z a0 hw hl zC SC PC hX b545 r_664 T664.heap f840 f764 f772 f783 gz784 f807 f815 f823 f831 f839) hZ634 (wd158 hw) (wd29 hw) (by decide) (by decide) (own_EW hw) f841.1 (sfS f799 sf0) (allS (Nat.lt_of_lt_of_le A545.lt le844) all0) (Vm.MethodsKnown.alikeC (hZ0.alike.symm.trans hZ634.alike) hTK0) (Vm.FramesKnown.alikeC (hZ0.alike.symm.trans hZ634.alike) hBF0)) (by rw [hml]; rfl) (lenOf pd3 rfl) rfl (Nat.le_of_eq rfl) (hb hby d_prog_8m6_28) (q := 31) rfl (by decide) (by decide) ?_
  rintro v755 T755 L755 ⟨X755, hS755, hZ755, hown755, R755⟩ Q755
  obtain ⟨rfl, Nq755, K755q, q755_0⟩ := Q755
  have N755 := Fr.app N664 Nq755
  show Go _ _ _ _ (T755.setTop (mkF m 31 #[.val (.ref a2)] [(.ref b545)]))
  have K847 : Keep h0 h545 [] := (Keep.refl h0 []).ext E545
  have K848 : Keep h0 h547 [] := K847.ext E547
  have gh849 : h0.size ≤ b547 := Nat.le_trans le612 (Nat.le_of_eq g547.symm)
  have K850 : Keep h0 T551.heap [] := K848.trans K551q (allS (Or.inr gh849) all0)
  have K851 : Keep h0 h557 [] := K850.ext E557
  have gh852 : h0.size ≤ vv_551 := Nat.le_trans le616 q551_4
  have K853 : Keep h0 T566.heap [] := K851.trans K566q (allS (Or.inr gh849) (allS (Or.inr gh852) all0))
  have K854 : Keep h0 T604.heap [] := K853.trans K604q (allS (Or.inr gh849) (allS (Or.inr gh852) all0))
  have K855 : Keep h0 h634 [] := K854.ext E634
  have K856 : Keep h0 T646.heap [] := K855.trans K646q (allS (Or.inr gh849) (allS (Or.inr gh852) all0))
  have K857 : Keep h0 T664.heap [] := K856.trans K664q all0
  have gh858 : h0.size ≤ b545 := Nat.le_trans (Nat.le_refl _) (Nat.le_of_eq g545.symm)
  have K859 : Keep h0 T755.heap [] := K857.trans K755q (allS (Or.inr gh858) all0)
  have f860 := f772.keep K755q
  have f861 := q664_1.keep K755q
  have ne862 : r_664 ≠ b545 := (Nat.ne_of_gt (Nat.lt_of_lt_of_le (Nat.lt_of_lt_of_le A545.lt le843) q664_0))
  have f863 := q664_2.keep K755q (ninS ne862 nin0)
  have f864 := q664_3.keep K755q (ninS ne862 nin0)
  have ne865 : c_664 ≠ b545 := (Nat.ne_of_gt (Nat.lt_of_lt_of_le (Nat.lt_of_lt_of_le A545.lt le843) q664_4))
  have f866 := q664_5.keep K755q (ninS ne865 nin0)
  have f867 := f841.trans R755
  refine endC X755 hlk hS755 (Nat.le_trans (Nat.le_refl _) (Nat.le_refl _)) hZ755 (own_EW hw) f867 (fun h => by rw [hret] at h; cases h) (lastA X755 hx hret rfl rfl rfl (hb hby d_prog_8m6_31)) ?_ (by decide) (by decide)
  exact ⟨b545, r_664, c_664, kc_664, rfl, N755, K859, gh858, f860, q755_0, f861, f863, f864, f866⟩
def Q_uf1 (Z : State) (zC : Int32) (a2 : Addr) (t : Addr) (kt : ClassId) (x0 : Int32) (h0 : Heap) (v : Option Value) (h : Heap) (L : List Loc) : Prop := ∃ (r : Addr), ∃ (m : Addr), ∃ (c : Addr), ∃ (kc : ClassId), v = some (.ref r) ∧ Fr Z.heap.size L ∧ Keep h0 h [] ∧ h0.size ≤ r ∧ Exa Z h r sT3 ∧ Fld Z h r sT4 "detailMessage" "Ljava/lang/String;" (.ref m) ∧ Exa Z h m sT1 ∧ Fld Z h m sT1 "coder" "B" (iv 0) ∧ Fld Z h m sT1 "value" "[B" (.ref c) ∧ Arv Z h c kc .byte (17 : Int32) [(iv 117), (iv 110), (iv 107), (iv 110), (iv 111), (iv 119), (iv 110), (iv 32), (iv 102), (iv 105), (iv 101), (iv 108), (iv 100), (iv 32), (iv 39), (.int x0), (iv 39)] (.int 0)
theorem rm_uf1 (l : Launch) (Z : State) (a0 : Array Value) (hw : HW a0 Z) (hl : l.stackTraces = true) (zC : Int32) (SC : tSC Z zC) (PC : ¬ zC = (0 : Int32)) (hX : ExW a0 Z) (a2 : Addr) (t : Addr) (kt : ClassId) (x0 : Int32) (h0 : Heap) (O0 : Old Z Z.heap.size h0) (Th : ThS Z h0) (Pe : Exa Z h0 a2 sT1) (Pc : Fld Z h0 a2 sT1 "coder" "B" (iv 0)) (Pv : Fld Z h0 a2 sT1 "value" "[B" (.ref t)) (Pa : Arv Z h0 t kt .byte (1 : Int32) [(.int x0)] (.int 0)) :
    ConK l Z EL (⟨"com/example/usage_throttle/usagethrottle/io/PolicyFields", "unknownField", sT5⟩ : MethodName) prog_8_method_6_code 1 (some (.object sT3)) ({ frames := 6, cells := 11, slots := 2908, locals := 106 } : Room) #[(.ref a2)] h0 [] (Q_uf1 Z zC a2 t kt x0 h0) := by
  refine ConK.intro (plainFor_of_name pn11) ?_
  intro p e s m below meth c T0 v0 X0 hx hby hml hown0 hnm hret hlk hZ0 e0 hS0 C0 hsl0 hs0 hTK0 hBF0
  have hTh0 : ThS Z s.heap := hs0 ▸ Th
  have N0 := Fr.nil Z.heap.size
  refine castGo (g' := mkF m 0 #[.val (.ref a2)] []) (by first | rfl | (simp [entryFrame, mkF, argsToLocals, Value.category]; done)) ?_
  show Go _ _ _ _ (T0.setTop (mkF m 0 #[.val (.ref a2)] []))
  refine g_newU X0 hx hZ0 hown0 (wd27 hw) (wd28 hw) (wd29 hw) (by decide) (by decide) e0 (hb hby d_prog_8m6_0) (q := 3) rfl ?_
  intro T868 h868 b868 g868 X868 e868 E868 A868 D868 U868
  have sf869 : Safe Z EL v0 h0 b868 := Safe.new (Nat.le_of_eq g868.symm)
  have F868_172 := D868 (Or.inl (wd172 hw)) (ty := (.object sT4)) (by decide)
  have F868_175 := D868 (Or.inl (wd175 hw)) (ty := (.array (.object "java/lang/StackTraceElement"))) (by decide)
  have F868_178 := D868 (Or.inl (wd178 hw)) (ty := (.object "java/util/List")) (by decide)
  have F868_202 := D868 (Or.inl (wd202 hw)) (ty := (.object sT1)) (by decide)
  have F868_203 := D868 (Or.inl (wd203 hw)) (ty := (.object "java/lang/Object")) (by decide)
  have F868_204 := D868 (Or.inl (wd204 hw)) (ty := .int) (by decide)
  refine g_dup X868 hx (hb hby d_prog_8m6_3) (q := 4) rfl rfl ?_
  refine g_new X868 hx hZ0 hown0 (wd30 hw) (wd31 hw) (wd32 hw) (by decide) (by decide) e868 (hb hby d_prog_8m6_4) (q := 7) rfl ?_
  intro T870 h870 b870 g870 X870 e870 E870 A870 D870
  have sf871 : Safe Z EL v0 h868 b870 := Safe.new (Nat.le_of_eq g870.symm)
  have F870_45 := D870 (Or.inl (wd45 hw)) (ty := (.array .byte)) (by decide)
  have F870_47 := D870 (Or.inl (wd47 hw)) (ty := .byte) (by decide)
  have F870_71 := D870 (Or.inl (wd71 hw)) (ty := .int) (by decide)
  refine g_dup X870 hx (hb hby d_prog_8m6_7) (q := 8) rfl rfl ?_
  have f876 := O0.ext E868
  have gz875 : Z.heap.size ≤ b870 := Nat.le_trans f876.2.1 (Nat.le_of_eq g870.symm)
  have f877 := f876.ext E870
  have f878 := C0.trans (CHr.ext E868 C0.1)
  have f879 := Safe.ext E870 f878.1 sf871
  refine g_sp X870 hx hZ0 hown0 (wd33 hw) (wd34 hw) (wd35 hw) rfl (by decide) e870 (Con.back (W := 3) (rm_sbinit l Z a0 hw hl zC SC PC hX b870 h870 f877 A870 F870_45 F870_47 F870_71 gz875) hZ0 (wd35 hw) (wd32 hw) (by decide) (by decide)) (by rw [hml]; rfl) (lenOf pd22 rfl) rfl (Nat.le_of_eq rfl) (hb hby d_prog_8m6_8) (q := 11) rfl (by decide) (by decide) ?_
  intro v874 T874 L874 X874 Q874
  obtain ⟨vv_874, kv_874, rfl, Nq874, K874q, q874_0, q874_1, q874_2, q874_3, q874_4, q874_5, q874_6⟩ := Q874
  have N874 := Fr.app N0 Nq874
  show Go _ _ _ _ (T874.setTop (mkF m 11 #[.val (.ref a2)] [(.ref b870), (.ref b868), (.ref b868)]))
  have f881 := f878.trans (CHr.ext E870 f878.1)
  have f882 := f881.trans (CHr.keep K874q (sfS f879 sf0) f881.1)
  refine g_ldc X874 hx hZ0 hown0 (wd48 hw) (own_wS hw) hS0 (Nat.zero_le _) (own_EW hw) (by simp [EL]) f882.1 (vs := [(iv 117), (iv 110), (iv 107), (iv 110), (iv 111), (iv 119), (iv 110), (iv 32), (iv 102), (iv 105), (iv 101), (iv 108), (iv 100), (iv 32), (iv 39)]) (z := (15 : Int32)) ⟨by decide, by decide⟩ (by decide) (by decide) (n := 60) (by decide) (by decide) (by decide) (by decide) rfl (hb hby d_prog_8m6_11) (q := 13) rfl ?_
  intro b880 T880 h880 kk880 d880 k880 X880 e880 E880 hS880 hk880 hZ880 hown880 A880 Fc880 Fv880 V880 lta880 ltb880 R880 sn880
  have f890 := q874_0.ext E880
  have f891 := q874_2.ext E880
  have f892 := q874_3.ext E880
  have f893 := q874_1.ext E880
  have f894 := q874_5.ext E880
  have gz895 : Z.heap.size ≤ vv_874 := Nat.le_trans f877.2.1 q874_4
  have f896 := f877.keep K874q (allS gz875 all0)
  have f897 := f896.ext E880
  have f898 := Safe.keep K874q (sfS f879 sf0) f881.1 f879
  have le899 := K874q.1
  have f900 := R880.safe (Nat.lt_of_lt_of_le A870.lt le899) f898
  refine g_vi X880 hx hZ880 hown880 (wd49 hw) (wd50 hw) (notFace_of_selects (args := #[]) (mvT hZ880 (wd52 hw))) (wd52 hw) (wd51 hw) (by decide) f890 e880 (Con.back (W := 2) (rm_sapA l Z a0 hw hl zC SC PC hX b870 vv_874 kv_874 (List.replicate 16 (iv 0)) b880 d880 k880 [(iv 117), (iv 110), (iv 107), (iv 110), (iv 111), (iv 119), (iv 110), (iv 32), (iv 102), (iv 105), (iv 101), (iv 108), (iv 100), (iv 32), (iv 39)] h880 f897 f890 f891 f892 f893 f894 rfl gz875 gz895 A880 Fc880 Fv880 V880 rfl) hZ880 (wd53 hw) (wd32 hw) (by decide) (by decide)) (by rw [hml]; rfl) (lenOf pd21 rfl) rfl (Nat.le_of_eq rfl) (hb hby d_prog_8m6_13) (q := 16) rfl (by decide) (by decide) ?_
  intro v889 T889 L889 X889 Q889
  obtain ⟨rfl, Nq889, K889q, q889_0, q889_1, q889_2, q889_3, q889_4, q889_5⟩ := Q889
  have N889 := Fr.app N874 Nq889
  have eq889_4 : Arv Z T889.heap vv_874 kv_874 .byte (16 : Int32) [(iv 117), (iv 110), (iv 107), (iv 110), (iv 111), (iv 119), (iv 110), (iv 32), (iv 102), (iv 105), (iv 101), (iv 108), (iv 100), (iv 32), (iv 39), (iv 0)] (.int 0) := q889_4
  show Go _ _ _ _ (T889.setTop (mkF m 16 #[.val (.ref a2)] [(.ref b870), (.ref b868), (.ref b868)]))
  refine aL X889 hx (hb hby d_prog_8m6_16) (q := 17) rfl rfl rfl ?_
  have f928 := Pe.ext E868
  have f929 := f928.ext E870
  have f930 := f929.keep K874q
  have f931 := f930.ext E880
  have f932 := f931.keep K889q
  have f933 := Pc.ext E868
  have f934 := f933.ext E870
  have le935 := E868.1
  have ne936 : a2 ≠ b870 := (Nat.ne_of_lt (Nat.lt_of_lt_of_le (Nat.lt_of_lt_of_le Pe.lt le935) (Nat.le_of_eq g870.symm)))
  have f937 := f934.keep K874q (ninS ne936 nin0)
  have f938 := f937.ext E880
  have le939 := (Nat.le_trans le935 E870.1)
  have ne940 : a2 ≠ vv_874 := (Nat.ne_of_lt (Nat.lt_of_lt_of_le (Nat.lt_of_lt_of_le Pe.lt le939) q874_4))
  have f941 := f938.keep K889q (ninS ne936 (ninS ne940 nin0))
  have f942 := Pv.ext E868
  have f943 := f942.ext E870
  have f944 := f943.keep K874q (ninS ne936 nin0)
  have f945 := f944.ext E880
  have f946 := f945.keep K889q (ninS ne936 (ninS ne940 nin0))
  have f947 := Pa.ext E868
  have f948 := f947.ext E870
  have ne949 : t ≠ b870 := (Nat.ne_of_lt (Nat.lt_of_lt_of_le (Nat.lt_of_lt_of_le Pa.lt le935) (Nat.le_of_eq g870.symm)))
  have f950 := f948.keep K874q (ninS ne949 nin0)
  have f951 := f950.ext E880
  have ne952 : t ≠ vv_874 := (Nat.ne_of_lt (Nat.lt_of_lt_of_le (Nat.lt_of_lt_of_le Pa.lt le939) q874_4))
  have f953 := f951.keep K889q (ninS ne949 (ninS ne952 nin0))
  have f954 := f897.keep K889q (allS gz875 (allS gz895 all0))
  have f955 := f882.trans R880
  have f956 := Safe.keep K889q (sfS f900 (sfS (safe_len hZ880 f894 (own_LN hw _ (by decide))) sf0)) f955.1 f900
  refine g_vi X889 hx hZ880 hown880 (wd97 hw) (wd98 hw) (notFace_of_selects (args := #[]) (mvT hZ880 (wd100 hw))) (wd100 hw) (wd99 hw) (by decide) q889_0 rfl (Con.back (W := 2) (rm_apoB l Z a0 hw hl zC SC PC hX b870 vv_874 kv_874 [(iv 117), (iv 110), (iv 107), (iv 110), (iv 111), (iv 119), (iv 110), (iv 32), (iv 102), (iv 105), (iv 101), (iv 108), (iv 100), (iv 32), (iv 39), (iv 0)] a2 t kt [(.int x0)] (1 : Int32) T889.heap f954 q889_0 q889_1 q889_2 q889_3 eq889_4 rfl gz875 gz895 f932 f941 f946 f953 rfl (by decide)) hZ880 (wd101 hw) (wd32 hw) (by decide) (by decide)) (by rw [hml]; rfl) (lenOf pd23 rfl) rfl (Nat.le_of_eq rfl) (hb hby d_prog_8m6_17) (q := 20) rfl (by decide) (by decide) ?_
  intro v927 T927 L927 X927 Q927
  obtain ⟨rfl, Nq927, K927q, q927_0, q927_1, q927_2, q927_3, q927_4, q927_5⟩ := Q927
  have N927 := Fr.app N889 Nq927
  have eq927_2 : Fld Z T927.heap b870 sT0 "count" "I" (iv 16) := by have := q927_2; rwa [show ((15 : Int32) + (1 : Int32)) = (16 : Int32) from by decide] at this
  have eq927_4 : Arv Z T927.heap vv_874 kv_874 .byte (16 : Int32) [(iv 117), (iv 110), (iv 107), (iv 110), (iv 111), (iv 119), (iv 110), (iv 32), (iv 102), (iv 105), (iv 101), (iv 108), (iv 100), (iv 32), (iv 39), (.int x0)] (.int 0) := q927_4
  show Go _ _ _ _ (T927.setTop (mkF m 20 #[.val (.ref a2)] [(.ref b870), (.ref b868), (.ref b868)]))
  have f958 := f955.trans (CHr.keep K889q (sfS f900 (sfS (safe_len hZ880 f894 (own_LN hw _ (by decide))) sf0)) f955.1)
  have f959 := f958.trans (CHr.keep K927q (sfS f956 (sfS (safe_len hZ880 eq889_4 (own_LN hw _ (by decide))) sf0)) f958.1)
  have le960 := K889q.1
  have le961 := (Nat.le_trans le960 K927q.1)
  refine g_ldc X927 hx hZ880 hown880 (wd112 hw) (own_wS hw) hS880 (Nat.le_trans hk880 le961) (own_EW hw) (by simp [EL]) f959.1 (vs := [(iv 39)]) (z := (1 : Int32)) ⟨by decide, by decide⟩ (by decide) (by decide) (n := 4) (by decide) (by decide) (by decide) (by decide) rfl (hb hby d_prog_8m6_20) (q := 22) rfl ?_
  intro b957 T957 h957 kk957 d957 k957 X957 e957 E957 hS957 hk957 hZ957 hown957 A957 Fc957 Fv957 V957 lta957 ltb957 R957 sn957
  have f974 := q927_0.ext E957
  have f975 := q927_1.ext E957
  have f976 := eq927_2.ext E957
  have f977 := q927_3.ext E957
  have f978 := eq927_4.ext E957
  have f979 := f954.keep K927q (allS gz875 (allS gz895 all0))
  have f980 := f979.ext E957
  have f981 := Safe.keep K927q (sfS f956 (sfS (safe_len hZ880 eq889_4 (own_LN hw _ (by decide))) sf0)) f958.1 f956
  have le982 := (Nat.le_trans le899 E880.1)
  have le983 := (Nat.le_trans le982 K889q.1)
  have le984 := (Nat.le_trans le983 K927q.1)
  have f985 := R957.safe (Nat.lt_of_lt_of_le A870.lt le984) f981
  refine g_vi X957 hx hZ957 hown957 (wd49 hw) (wd50 hw) (notFace_of_selects (args := #[]) (mvT hZ957 (wd52 hw))) (wd52 hw) (wd51 hw) (by decide) f974 e957 (Con.back (W := 2) (rm_sapG2 l Z a0 hw hl zC SC PC hX b870 vv_874 kv_874 [(iv 117), (iv 110), (iv 107), (iv 110), (iv 111), (iv 119), (iv 110), (iv 32), (iv 102), (iv 105), (iv 101), (iv 108), (iv 100), (iv 32), (iv 39), (.int x0)] b957 d957 k957 [(iv 39)] h957 f980 f974 f975 f976 f977 f978 rfl gz875 gz895 A957 Fc957 Fv957 V957 rfl) hZ957 (wd53 hw) (wd32 hw) (by decide) (by decide)) (by rw [hml]; rfl) (lenOf pd21 rfl) rfl (Nat.le_of_eq rfl) (hb hby d_prog_8m6_22) (q := 25) rfl (by decide) (by decide) ?_
  intro v973 T973 L973 X973 Q973
  obtain ⟨c_973, kc_973, rfl, Nq973, K973q, q973_0, q973_1, q973_2, q973_3, q973_4, q973_5, q973_6, q973_7⟩ := Q973
  have N973 := Fr.app N927 Nq973
  have eq973_4 : Arv Z T973.heap c_973 kc_973 .byte (34 : Int32) [(iv 117), (iv 110), (iv 107), (iv 110), (iv 111), (iv 119), (iv 110), (iv 32), (iv 102), (iv 105), (iv 101), (iv 108), (iv 100), (iv 32), (iv 39), (.int x0), (iv 39), (iv 0), (iv 0), (iv 0), (iv 0), (iv 0), (iv 0), (iv 0), (iv 0), (iv 0), (iv 0), (iv 0), (iv 0), (iv 0), (iv 0), (iv 0), (iv 0), (iv 0)] (.int 0) := q973_4
  show Go _ _ _ _ (T973.setTop (mkF m 25 #[.val (.ref a2)] [(.ref b870), (.ref b868), (.ref b868)]))
  have f987 := f980.keep K973q (allS gz875 all0)
  refine g_vi X973 hx hZ957 hown957 (wd113 hw) (wd114 hw) (notFace_of_selects (args := #[]) (mvT hZ957 (wd116 hw))) (wd116 hw) (wd115 hw) (by decide) q973_0 rfl (Con.back (W := 2) (rm_tosB l Z a0 hw hl zC SC PC hX b870 c_973 kc_973 [(iv 117), (iv 110), (iv 107), (iv 110), (iv 111), (iv 119), (iv 110), (iv 32), (iv 102), (iv 105), (iv 101), (iv 108), (iv 100), (iv 32), (iv 39), (.int x0), (iv 39), (iv 0), (iv 0), (iv 0), (iv 0), (iv 0), (iv 0), (iv 0), (iv 0), (iv 0), (iv 0), (iv 0), (iv 0), (iv 0), (iv 0), (iv 0), (iv 0), (iv 0)] (17 : Int32) T973.heap f987 q973_0 q973_1 q973_2 q973_3 eq973_4 rfl q973_7 (by decide)) hZ957 (wd117 hw) (wd32 hw) (by decide) (by decide)) (by rw [hml]; rfl) (lenOf pd19 rfl) rfl (Nat.le_of_eq rfl) (hb hby d_prog_8m6_25) (q := 28) rfl (by decide) (by decide) ?_
  intro v986 T986 L986 X986 Q986
  obtain ⟨r_986, c_986, kc_986, rfl, Nq986, K986q, q986_0, q986_1, q986_2, q986_3, q986_4, q986_5⟩ := Q986
  have N986 := Fr.app N973 Nq986
  have eq986_5 : Arv Z T986.heap c_986 kc_986 .byte (17 : Int32) [(iv 117), (iv 110), (iv 107), (iv 110), (iv 111), (iv 119), (iv 110), (iv 32), (iv 102), (iv 105), (iv 101), (iv 108), (iv 100), (iv 32), (iv 39), (.int x0), (iv 39)] (.int 0) := q986_5
  show Go _ _ _ _ (T986.setTop (mkF m 28 #[.val (.ref a2)] [(.ref r_986), (.ref b868), (.ref b868)]))
  have f1075 := ThS.ext E868 Th
  have f1076 := ThS.ext E870 f1075
  have f1077 := ThS.keep K874q (nsS (Exa.nostat A870) ns0) f1076
  have f1078 := ThS.ext E880 f1077
  have f1079 := q874_6.ext E880
  have f1080 := ThS.keep K889q (nsS (Exa.nostat f890) (nsS (Exa.nostat f1079) ns0)) f1078
  have f1081 := f1079.keep K889q
  have f1082 := ThS.keep K927q (nsS (Exa.nostat q889_0) (nsS (Exa.nostat f1081) ns0)) f1080
  have f1083 := ThS.ext E957 f1082
  have f1084 := ThS.keep K973q (nsS (Exa.nostat f974) ns0) f1083
  have f1085 := ThS.keep K986q ns0 f1084
  have f1086 := A868.ext E870
  have f1087 := f1086.keep K874q
  have f1088 := f1087.ext E880
  have f1089 := f1088.keep K889q
  have f1090 := f1089.keep K927q
  have f1091 := f1090.ext E957
  have f1092 := f1091.keep K973q
  have f1093 := f1092.keep K986q
  have f1094 := Unt.ext E870 U868
  have ne1095 : b868 ≠ b870 := (Nat.ne_of_lt (Nat.lt_of_lt_of_le (Nat.lt_of_lt_of_le A868.lt (Nat.le_refl _)) (Nat.le_of_eq g870.symm)))
  have f1096 := Unt.keep K874q (ninS ne1095 nin0) f1094
  have f1097 := Unt.ext E880 f1096
  have le1098 := E870.1
  have ne1099 : b868 ≠ vv_874 := (Nat.ne_of_lt (Nat.lt_of_lt_of_le (Nat.lt_of_lt_of_le A868.lt le1098) q874_4))
  have f1100 := Unt.keep K889q (ninS ne1095 (ninS ne1099 nin0)) f1097
  have f1101 := Unt.keep K927q (ninS ne1095 (ninS ne1099 nin0)) f1100
  have f1102 := Unt.ext E957 f1101
  have f1103 := Unt.keep K973q (ninS ne1095 nin0) f1102
  have f1104 := Unt.keep K986q nin0 f1103
  have gz1105 : Z.heap.size ≤ b868 := Nat.le_trans O0.2.1 (Nat.le_of_eq g868.symm)
  have f1106 := Safe.ext E868 C0.1 sf869
  have f1107 := Safe.ext E870 f878.1 f1106
  have f1108 := Safe.keep K874q (sfS f879 sf0) f881.1 f1107
  have le1109 := (Nat.le_trans le1098 K874q.1)
  have f1110 := R880.safe (Nat.lt_of_lt_of_le A868.lt le1109) f1108
  have f1111 := Safe.keep K889q (sfS f900 (sfS (safe_len hZ880 f894 (own_LN hw _ (by decide))) sf0)) f955.1 f1110
  have f1112 := Safe.keep K927q (sfS f956 (sfS (safe_len hZ880 eq889_4 (own_LN hw _ (by decide))) sf0)) f958.1 f1111
  have le1113 := (Nat.le_trans le1109 E880.1)
  have le1114 := (Nat.le_trans le1113 K889q.1)
  have le1115 := (Nat.le_trans le1114 K927q.1)
  have f1116 := R957.safe (Nat.lt_of_lt_of_le A868.lt le1115) f1112
  have f1117 := f959.trans R957
  have f1118 := Safe.keep K973q (sfS f985 sf0) f1117.1 f1116
  have f1119 := f1117.trans (CHr.keep K973q (sfS f985 sf0) f1117.1)
  have f1120 := Safe.keep K986q sf0 f1119.1 f1118
  have f1121 := F868_172.ext E870
  have f1122 := f1121.keep K874q (ninS ne1095 nin0)
  have f1123 := f1122.ext E880
  have f1124 := f1123.keep K889q (ninS ne1095 (ninS ne1099 nin0))
  have f1125 := f1124.keep K927q (ninS ne1095 (ninS ne1099 nin0))
  have f1126 := f1125.ext E957
  have f1127 := f1126.keep K973q (ninS ne1095 nin0)
  have f1128 := f1127.keep K986q nin0
  have f1129 := F868_175.ext E870
  have f1130 := f1129.keep K874q (ninS ne1095 nin0)
  have f1131 := f1130.ext E880
  have f1132 := f1131.keep K889q (ninS ne1095 (ninS ne1099 nin0))
  have f1133 := f1132.keep K927q (ninS ne1095 (ninS ne1099 nin0))
  have f1134 := f1133.ext E957
  have f1135 := f1134.keep K973q (ninS ne1095 nin0)
  have f1136 := f1135.keep K986q nin0
  have f1137 := F868_178.ext E870
  have f1138 := f1137.keep K874q (ninS ne1095 nin0)
  have f1139 := f1138.ext E880
  have f1140 := f1139.keep K889q (ninS ne1095 (ninS ne1099 nin0))
  have f1141 := f1140.keep K927q (ninS ne1095 (ninS ne1099 nin0))
  have f1142 := f1141.ext E957
  have f1143 := f1142.keep K973q (ninS ne1095 nin0)
  have f1144 := f1143.keep K986q nin0
  have f1145 := F868_203.ext E870
  have f1146 := f1145.keep K874q (ninS ne1095 nin0)
  have f1147 := f1146.ext E880
  have f1148 := f1147.keep K889q (ninS ne1095 (ninS ne1099 nin0))
  have f1149 := f1148.keep K927q (ninS ne1095 (ninS ne1099 nin0))
  have f1150 := f1149.ext E957
  have f1151 := f1150.keep K973q (ninS ne1095 nin0)
  have f1152 := f1151.keep K986q nin0
  have f1153 := F868_202.ext E870
  have f1154 := f1153.keep K874q (ninS ne1095 nin0)
  have f1155 := f1154.ext E880
  have f1156 := f1155.keep K889q (ninS ne1095 (ninS ne1099 nin0))
  have f1157 := f1156.keep K927q (ninS ne1095 (ninS ne1099 nin0))
  have f1158 := f1157.ext E957
  have f1159 := f1158.keep K973q (ninS ne1095 nin0)
  have f1160 := f1159.keep K986q nin0
  have f1161 := f987.keep K986q all0
  have f1162 := f1119.trans (CHr.keep K986q sf0 f1119.1)
  have le1163 := (Nat.le_trans le1115 E957.1)
  have le1164 := (Nat.le_trans le1163 K973q.1)
  have le1165 := (Nat.le_trans le1164 K986q.1)
  have le1166 := K973q.1
  have le1167 := (Nat.le_trans le1166 K986q.1)
  refine g_spS X986 hx hZ957 hown957 hS957 (Nat.le_trans hk957 le1167) (wd156 hw) (wd157 hw) (wd158 hw) rfl (by decide) rfl (ConK.back (W := 1) (rm_thr2 l Z a0 hw hl zC SC PC hX b868 r_986 T986.heap f1161 f1085 f1093 f1104 gz1105 f1128 f1136 f1144 f1152 f1160) hZ957 (wd158 hw) (wd29 hw) (by decide) (by decide) (own_EW hw) f1162.1 (sfS f1120 sf0) (allS (Nat.lt_of_lt_of_le A868.lt le1165) all0) (Vm.MethodsKnown.alikeC (hZ0.alike.symm.trans hZ957.alike) hTK0) (Vm.FramesKnown.alikeC (hZ0.alike.symm.trans hZ957.alike) hBF0)) (by rw [hml]; rfl) (lenOf pd3 rfl) rfl (Nat.le_of_eq rfl) (hb hby d_prog_8m6_28) (q := 31) rfl (by decide) (by decide) ?_
  rintro v1074 T1074 L1074 ⟨X1074, hS1074, hZ1074, hown1074, R1074⟩ Q1074
  obtain ⟨rfl, Nq1074, K1074q, q1074_0⟩ := Q1074
  have N1074 := Fr.app N986 Nq1074
  show Go _ _ _ _ (T1074.setTop (mkF m 31 #[.val (.ref a2)] [(.ref b868)]))
  have K1168 : Keep h0 h868 [] := (Keep.refl h0 []).ext E868
  have K1169 : Keep h0 h870 [] := K1168.ext E870
  have gh1170 : h0.size ≤ b870 := Nat.le_trans le935 (Nat.le_of_eq g870.symm)
  have K1171 : Keep h0 T874.heap [] := K1169.trans K874q (allS (Or.inr gh1170) all0)
  have K1172 : Keep h0 h880 [] := K1171.ext E880
  have gh1173 : h0.size ≤ vv_874 := Nat.le_trans le939 q874_4
  have K1174 : Keep h0 T889.heap [] := K1172.trans K889q (allS (Or.inr gh1170) (allS (Or.inr gh1173) all0))
  have K1175 : Keep h0 T927.heap [] := K1174.trans K927q (allS (Or.inr gh1170) (allS (Or.inr gh1173) all0))
  have K1176 : Keep h0 h957 [] := K1175.ext E957
  have K1177 : Keep h0 T973.heap [] := K1176.trans K973q (allS (Or.inr gh1170) all0)
  have K1178 : Keep h0 T986.heap [] := K1177.trans K986q all0
  have gh1179 : h0.size ≤ b868 := Nat.le_trans (Nat.le_refl _) (Nat.le_of_eq g868.symm)
  have K1180 : Keep h0 T1074.heap [] := K1178.trans K1074q (allS (Or.inr gh1179) all0)
  have f1181 := f1093.keep K1074q
  have f1182 := q986_1.keep K1074q
  have ne1183 : r_986 ≠ b868 := (Nat.ne_of_gt (Nat.lt_of_lt_of_le (Nat.lt_of_lt_of_le A868.lt le1164) q986_0))
  have f1184 := q986_2.keep K1074q (ninS ne1183 nin0)
  have f1185 := q986_3.keep K1074q (ninS ne1183 nin0)
  have ne1186 : c_986 ≠ b868 := (Nat.ne_of_gt (Nat.lt_of_lt_of_le (Nat.lt_of_lt_of_le A868.lt le1164) q986_4))
  have f1187 := eq986_5.keep K1074q (ninS ne1186 nin0)
  have f1188 := f1162.trans R1074
  refine endC X1074 hlk hS1074 (Nat.le_trans (Nat.le_refl _) (Nat.le_refl _)) hZ1074 (own_EW hw) f1188 (fun h => by rw [hret] at h; cases h) (lastA X1074 hx hret rfl rfl rfl (hb hby d_prog_8m6_31)) ?_ (by decide) (by decide)
  exact ⟨b868, r_986, c_986, kc_986, rfl, N1074, K1180, gh1179, f1181, q1074_0, f1182, f1184, f1185, f1187⟩
def Q_uf2 (Z : State) (zC : Int32) (a2 : Addr) (t : Addr) (kt : ClassId) (x0 : Int32) (x1 : Int32) (h0 : Heap) (v : Option Value) (h : Heap) (L : List Loc) : Prop := ∃ (r : Addr), ∃ (m : Addr), ∃ (c : Addr), ∃ (kc : ClassId), v = some (.ref r) ∧ Fr Z.heap.size L ∧ Keep h0 h [] ∧ h0.size ≤ r ∧ Exa Z h r sT3 ∧ Fld Z h r sT4 "detailMessage" "Ljava/lang/String;" (.ref m) ∧ Exa Z h m sT1 ∧ Fld Z h m sT1 "coder" "B" (iv 0) ∧ Fld Z h m sT1 "value" "[B" (.ref c) ∧ Arv Z h c kc .byte (18 : Int32) [(iv 117), (iv 110), (iv 107), (iv 110), (iv 111), (iv 119), (iv 110), (iv 32), (iv 102), (iv 105), (iv 101), (iv 108), (iv 100), (iv 32), (iv 39), (.int x0), (.int x1), (iv 39)] (.int 0)
theorem rm_uf2 (l : Launch) (Z : State) (a0 : Array Value) (hw : HW a0 Z) (hl : l.stackTraces = true) (zC : Int32) (SC : tSC Z zC) (PC : ¬ zC = (0 : Int32)) (hX : ExW a0 Z) (a2 : Addr) (t : Addr) (kt : ClassId) (x0 : Int32) (x1 : Int32) (h0 : Heap) (O0 : Old Z Z.heap.size h0) (Th : ThS Z h0) (Pe : Exa Z h0 a2 sT1) (Pc : Fld Z h0 a2 sT1 "coder" "B" (iv 0)) (Pv : Fld Z h0 a2 sT1 "value" "[B" (.ref t)) (Pa : Arv Z h0 t kt .byte (2 : Int32) [(.int x0), (.int x1)] (.int 0)) :
    ConK l Z EL (⟨"com/example/usage_throttle/usagethrottle/io/PolicyFields", "unknownField", sT5⟩ : MethodName) prog_8_method_6_code 1 (some (.object sT3)) ({ frames := 7, cells := 11, slots := 2908, locals := 106 } : Room) #[(.ref a2)] h0 [] (Q_uf2 Z zC a2 t kt x0 x1 h0) := by
  refine ConK.intro (plainFor_of_name pn11) ?_
  intro p e s m below meth c T0 v0 X0 hx hby hml hown0 hnm hret hlk hZ0 e0 hS0 C0 hsl0 hs0 hTK0 hBF0
  have hTh0 : ThS Z s.heap := hs0 ▸ Th
  have N0 := Fr.nil Z.heap.size
  refine castGo (g' := mkF m 0 #[.val (.ref a2)] []) (by first | rfl | (simp [entryFrame, mkF, argsToLocals, Value.category]; done)) ?_
  show Go _ _ _ _ (T0.setTop (mkF m 0 #[.val (.ref a2)] []))
  refine g_newU X0 hx hZ0 hown0 (wd27 hw) (wd28 hw) (wd29 hw) (by decide) (by decide) e0 (hb hby d_prog_8m6_0) (q := 3) rfl ?_
  intro T1189 h1189 b1189 g1189 X1189 e1189 E1189 A1189 D1189 U1189
  have sf1190 : Safe Z EL v0 h0 b1189 := Safe.new (Nat.le_of_eq g1189.symm)
  have F1189_172 := D1189 (Or.inl (wd172 hw)) (ty := (.object sT4)) (by decide)
  have F1189_175 := D1189 (Or.inl (wd175 hw)) (ty := (.array (.object "java/lang/StackTraceElement"))) (by decide)
  have F1189_178 := D1189 (Or.inl (wd178 hw)) (ty := (.object "java/util/List")) (by decide)
  have F1189_202 := D1189 (Or.inl (wd202 hw)) (ty := (.object sT1)) (by decide)
  have F1189_203 := D1189 (Or.inl (wd203 hw)) (ty := (.object "java/lang/Object")) (by decide)
  have F1189_204 := D1189 (Or.inl (wd204 hw)) (ty := .int) (by decide)
  refine g_dup X1189 hx (hb hby d_prog_8m6_3) (q := 4) rfl rfl ?_
  refine g_new X1189 hx hZ0 hown0 (wd30 hw) (wd31 hw) (wd32 hw) (by decide) (by decide) e1189 (hb hby d_prog_8m6_4) (q := 7) rfl ?_
  intro T1191 h1191 b1191 g1191 X1191 e1191 E1191 A1191 D1191
  have sf1192 : Safe Z EL v0 h1189 b1191 := Safe.new (Nat.le_of_eq g1191.symm)
  have F1191_45 := D1191 (Or.inl (wd45 hw)) (ty := (.array .byte)) (by decide)
  have F1191_47 := D1191 (Or.inl (wd47 hw)) (ty := .byte) (by decide)
  have F1191_71 := D1191 (Or.inl (wd71 hw)) (ty := .int) (by decide)
  refine g_dup X1191 hx (hb hby d_prog_8m6_7) (q := 8) rfl rfl ?_
  have f1197 := O0.ext E1189
  have gz1196 : Z.heap.size ≤ b1191 := Nat.le_trans f1197.2.1 (Nat.le_of_eq g1191.symm)
  have f1198 := f1197.ext E1191
  have f1199 := C0.trans (CHr.ext E1189 C0.1)
  have f1200 := Safe.ext E1191 f1199.1 sf1192
  refine g_sp X1191 hx hZ0 hown0 (wd33 hw) (wd34 hw) (wd35 hw) rfl (by decide) e1191 (Con.back (W := 3) (rm_sbinit l Z a0 hw hl zC SC PC hX b1191 h1191 f1198 A1191 F1191_45 F1191_47 F1191_71 gz1196) hZ0 (wd35 hw) (wd32 hw) (by decide) (by decide)) (by rw [hml]; rfl) (lenOf pd22 rfl) rfl (Nat.le_of_eq rfl) (hb hby d_prog_8m6_8) (q := 11) rfl (by decide) (by decide) ?_
  intro v1195 T1195 L1195 X1195 Q1195
  obtain ⟨vv_1195, kv_1195, rfl, Nq1195, K1195q, q1195_0, q1195_1, q1195_2, q1195_3, q1195_4, q1195_5, q1195_6⟩ := Q1195
  have N1195 := Fr.app N0 Nq1195
  show Go _ _ _ _ (T1195.setTop (mkF m 11 #[.val (.ref a2)] [(.ref b1191), (.ref b1189), (.ref b1189)]))
  have f1202 := f1199.trans (CHr.ext E1191 f1199.1)
  have f1203 := f1202.trans (CHr.keep K1195q (sfS f1200 sf0) f1202.1)
  refine g_ldc X1195 hx hZ0 hown0 (wd48 hw) (own_wS hw) hS0 (Nat.zero_le _) (own_EW hw) (by simp [EL]) f1203.1 (vs := [(iv 117), (iv 110), (iv 107), (iv 110), (iv 111), (iv 119), (iv 110), (iv 32), (iv 102), (iv 105), (iv 101), (iv 108), (iv 100), (iv 32), (iv 39)]) (z := (15 : Int32)) ⟨by decide, by decide⟩ (by decide) (by decide) (n := 60) (by decide) (by decide) (by decide) (by decide) rfl (hb hby d_prog_8m6_11) (q := 13) rfl ?_
  intro b1201 T1201 h1201 kk1201 d1201 k1201 X1201 e1201 E1201 hS1201 hk1201 hZ1201 hown1201 A1201 Fc1201 Fv1201 V1201 lta1201 ltb1201 R1201 sn1201
  have f1211 := q1195_0.ext E1201
  have f1212 := q1195_2.ext E1201
  have f1213 := q1195_3.ext E1201
  have f1214 := q1195_1.ext E1201
  have f1215 := q1195_5.ext E1201
  have gz1216 : Z.heap.size ≤ vv_1195 := Nat.le_trans f1198.2.1 q1195_4
  have f1217 := f1198.keep K1195q (allS gz1196 all0)
  have f1218 := f1217.ext E1201
  have f1219 := Safe.keep K1195q (sfS f1200 sf0) f1202.1 f1200
  have le1220 := K1195q.1
  have f1221 := R1201.safe (Nat.lt_of_lt_of_le A1191.lt le1220) f1219
  refine g_vi X1201 hx hZ1201 hown1201 (wd49 hw) (wd50 hw) (notFace_of_selects (args := #[]) (mvT hZ1201 (wd52 hw))) (wd52 hw) (wd51 hw) (by decide) f1211 e1201 (Con.back (W := 2) (rm_sapA l Z a0 hw hl zC SC PC hX b1191 vv_1195 kv_1195 (List.replicate 16 (iv 0)) b1201 d1201 k1201 [(iv 117), (iv 110), (iv 107), (iv 110), (iv 111), (iv 119), (iv 110), (iv 32), (iv 102), (iv 105), (iv 101), (iv 108), (iv 100), (iv 32), (iv 39)] h1201 f1218 f1211 f1212 f1213 f1214 f1215 rfl gz1196 gz1216 A1201 Fc1201 Fv1201 V1201 rfl) hZ1201 (wd53 hw) (wd32 hw) (by decide) (by decide)) (by rw [hml]; rfl) (lenOf pd21 rfl) rfl (Nat.le_of_eq rfl) (hb hby d_prog_8m6_13) (q := 16) rfl (by decide) (by decide) ?_
  intro v1210 T1210 L1210 X1210 Q1210
  obtain ⟨rfl, Nq1210, K1210q, q1210_0, q1210_1, q1210_2, q1210_3, q1210_4, q1210_5⟩ := Q1210
  have N1210 := Fr.app N1195 Nq1210
  have eq1210_4 : Arv Z T1210.heap vv_1195 kv_1195 .byte (16 : Int32) [(iv 117), (iv 110), (iv 107), (iv 110), (iv 111), (iv 119), (iv 110), (iv 32), (iv 102), (iv 105), (iv 101), (iv 108), (iv 100), (iv 32), (iv 39), (iv 0)] (.int 0) := q1210_4
  show Go _ _ _ _ (T1210.setTop (mkF m 16 #[.val (.ref a2)] [(.ref b1191), (.ref b1189), (.ref b1189)]))
  refine aL X1210 hx (hb hby d_prog_8m6_16) (q := 17) rfl rfl rfl ?_
  have f1275 := Pe.ext E1189
  have f1276 := f1275.ext E1191
  have f1277 := f1276.keep K1195q
  have f1278 := f1277.ext E1201
  have f1279 := f1278.keep K1210q
  have f1280 := Pc.ext E1189
  have f1281 := f1280.ext E1191
  have le1282 := E1189.1
  have ne1283 : a2 ≠ b1191 := (Nat.ne_of_lt (Nat.lt_of_lt_of_le (Nat.lt_of_lt_of_le Pe.lt le1282) (Nat.le_of_eq g1191.symm)))
  have f1284 := f1281.keep K1195q (ninS ne1283 nin0)
  have f1285 := f1284.ext E1201
  have le1286 := (Nat.le_trans le1282 E1191.1)
  have ne1287 : a2 ≠ vv_1195 := (Nat.ne_of_lt (Nat.lt_of_lt_of_le (Nat.lt_of_lt_of_le Pe.lt le1286) q1195_4))
  have f1288 := f1285.keep K1210q (ninS ne1283 (ninS ne1287 nin0))
  have f1289 := Pv.ext E1189
  have f1290 := f1289.ext E1191
  have f1291 := f1290.keep K1195q (ninS ne1283 nin0)
  have f1292 := f1291.ext E1201
  have f1293 := f1292.keep K1210q (ninS ne1283 (ninS ne1287 nin0))
  have f1294 := Pa.ext E1189
  have f1295 := f1294.ext E1191
  have ne1296 : t ≠ b1191 := (Nat.ne_of_lt (Nat.lt_of_lt_of_le (Nat.lt_of_lt_of_le Pa.lt le1282) (Nat.le_of_eq g1191.symm)))
  have f1297 := f1295.keep K1195q (ninS ne1296 nin0)
  have f1298 := f1297.ext E1201
  have ne1299 : t ≠ vv_1195 := (Nat.ne_of_lt (Nat.lt_of_lt_of_le (Nat.lt_of_lt_of_le Pa.lt le1286) q1195_4))
  have f1300 := f1298.keep K1210q (ninS ne1296 (ninS ne1299 nin0))
  have f1301 := f1218.keep K1210q (allS gz1196 (allS gz1216 all0))
  have f1302 := f1203.trans R1201
  have f1303 := Safe.keep K1210q (sfS f1221 (sfS (safe_len hZ1201 f1215 (own_LN hw _ (by decide))) sf0)) f1302.1 f1221
  refine g_vi X1210 hx hZ1201 hown1201 (wd97 hw) (wd98 hw) (notFace_of_selects (args := #[]) (mvT hZ1201 (wd100 hw))) (wd100 hw) (wd99 hw) (by decide) q1210_0 rfl (Con.back (W := 2) (rm_apoG l Z a0 hw hl zC SC PC hX b1191 vv_1195 kv_1195 [(iv 117), (iv 110), (iv 107), (iv 110), (iv 111), (iv 119), (iv 110), (iv 32), (iv 102), (iv 105), (iv 101), (iv 108), (iv 100), (iv 32), (iv 39), (iv 0)] a2 t kt [(.int x0), (.int x1)] (2 : Int32) T1210.heap f1301 q1210_0 q1210_1 q1210_2 q1210_3 eq1210_4 rfl gz1196 gz1216 f1279 f1288 f1293 f1300 rfl (by decide)) hZ1201 (wd101 hw) (wd32 hw) (by decide) (by decide)) (by rw [hml]; rfl) (lenOf pd23 rfl) rfl (Nat.le_of_eq rfl) (hb hby d_prog_8m6_17) (q := 20) rfl (by decide) (by decide) ?_
  intro v1274 T1274 L1274 X1274 Q1274
  obtain ⟨c_1274, kc_1274, rfl, Nq1274, K1274q, q1274_0, q1274_1, q1274_2, q1274_3, q1274_4, q1274_5, q1274_6, q1274_7⟩ := Q1274
  have N1274 := Fr.app N1210 Nq1274
  have eq1274_2 : Fld Z T1274.heap b1191 sT0 "count" "I" (iv 17) := by have := q1274_2; rwa [show ((15 : Int32) + (2 : Int32)) = (17 : Int32) from by decide] at this
  have eq1274_4 : Arv Z T1274.heap c_1274 kc_1274 .byte (34 : Int32) [(iv 117), (iv 110), (iv 107), (iv 110), (iv 111), (iv 119), (iv 110), (iv 32), (iv 102), (iv 105), (iv 101), (iv 108), (iv 100), (iv 32), (iv 39), (.int x0), (.int x1), (iv 0), (iv 0), (iv 0), (iv 0), (iv 0), (iv 0), (iv 0), (iv 0), (iv 0), (iv 0), (iv 0), (iv 0), (iv 0), (iv 0), (iv 0), (iv 0), (iv 0)] (.int 0) := q1274_4
  show Go _ _ _ _ (T1274.setTop (mkF m 20 #[.val (.ref a2)] [(.ref b1191), (.ref b1189), (.ref b1189)]))
  have f1305 := f1302.trans (CHr.keep K1210q (sfS f1221 (sfS (safe_len hZ1201 f1215 (own_LN hw _ (by decide))) sf0)) f1302.1)
  have f1306 := f1305.trans (CHr.keep K1274q (sfS f1303 sf0) f1305.1)
  have le1307 := K1210q.1
  have le1308 := (Nat.le_trans le1307 K1274q.1)
  refine g_ldc X1274 hx hZ1201 hown1201 (wd112 hw) (own_wS hw) hS1201 (Nat.le_trans hk1201 le1308) (own_EW hw) (by simp [EL]) f1306.1 (vs := [(iv 39)]) (z := (1 : Int32)) ⟨by decide, by decide⟩ (by decide) (by decide) (n := 4) (by decide) (by decide) (by decide) (by decide) rfl (hb hby d_prog_8m6_20) (q := 22) rfl ?_
  intro b1304 T1304 h1304 kk1304 d1304 k1304 X1304 e1304 E1304 hS1304 hk1304 hZ1304 hown1304 A1304 Fc1304 Fv1304 V1304 lta1304 ltb1304 R1304 sn1304
  have f1324 := q1274_0.ext E1304
  have f1325 := q1274_1.ext E1304
  have f1326 := eq1274_2.ext E1304
  have f1327 := q1274_3.ext E1304
  have f1328 := eq1274_4.ext E1304
  have gz1329 : Z.heap.size ≤ c_1274 := Nat.le_trans f1301.2.1 q1274_6
  have f1330 := f1301.keep K1274q (allS gz1196 all0)
  have f1331 := f1330.ext E1304
  have f1332 := Safe.keep K1274q (sfS f1303 sf0) f1305.1 f1303
  have le1333 := (Nat.le_trans le1220 E1201.1)
  have le1334 := (Nat.le_trans le1333 K1210q.1)
  have le1335 := (Nat.le_trans le1334 K1274q.1)
  have f1336 := R1304.safe (Nat.lt_of_lt_of_le A1191.lt le1335) f1332
  refine g_vi X1304 hx hZ1304 hown1304 (wd49 hw) (wd50 hw) (notFace_of_selects (args := #[]) (mvT hZ1304 (wd52 hw))) (wd52 hw) (wd51 hw) (by decide) f1324 e1304 (Con.back (W := 2) (rm_sapH l Z a0 hw hl zC SC PC hX b1191 c_1274 kc_1274 [(iv 117), (iv 110), (iv 107), (iv 110), (iv 111), (iv 119), (iv 110), (iv 32), (iv 102), (iv 105), (iv 101), (iv 108), (iv 100), (iv 32), (iv 39), (.int x0), (.int x1), (iv 0), (iv 0), (iv 0), (iv 0), (iv 0), (iv 0), (iv 0), (iv 0), (iv 0), (iv 0), (iv 0), (iv 0), (iv 0), (iv 0), (iv 0), (iv 0), (iv 0)] b1304 d1304 k1304 [(iv 39)] (17 : Int32) h1304 f1331 f1324 f1325 f1326 f1327 f1328 rfl gz1196 gz1329 A1304 Fc1304 Fv1304 V1304 rfl (by decide)) hZ1304 (wd53 hw) (wd32 hw) (by decide) (by decide)) (by rw [hml]; rfl) (lenOf pd21 rfl) rfl (Nat.le_of_eq rfl) (hb hby d_prog_8m6_22) (q := 25) rfl (by decide) (by decide) ?_
  intro v1323 T1323 L1323 X1323 Q1323
  obtain ⟨rfl, Nq1323, K1323q, q1323_0, q1323_1, q1323_2, q1323_3, q1323_4, q1323_5⟩ := Q1323
  have N1323 := Fr.app N1274 Nq1323
  have eq1323_2 : Fld Z T1323.heap b1191 sT0 "count" "I" (iv 18) := by have := q1323_2; rwa [show ((17 : Int32) + (1 : Int32)) = (18 : Int32) from by decide] at this
  have eq1323_4 : Arv Z T1323.heap c_1274 kc_1274 .byte (34 : Int32) [(iv 117), (iv 110), (iv 107), (iv 110), (iv 111), (iv 119), (iv 110), (iv 32), (iv 102), (iv 105), (iv 101), (iv 108), (iv 100), (iv 32), (iv 39), (.int x0), (.int x1), (iv 39), (iv 0), (iv 0), (iv 0), (iv 0), (iv 0), (iv 0), (iv 0), (iv 0), (iv 0), (iv 0), (iv 0), (iv 0), (iv 0), (iv 0), (iv 0), (iv 0)] (.int 0) := q1323_4
  show Go _ _ _ _ (T1323.setTop (mkF m 25 #[.val (.ref a2)] [(.ref b1191), (.ref b1189), (.ref b1189)]))
  have f1340 := q1274_7.ext E1304
  have f1341 := f1340.keep K1323q
  have f1342 := f1331.keep K1323q (allS gz1196 (allS gz1329 all0))
  refine g_vi X1323 hx hZ1304 hown1304 (wd113 hw) (wd114 hw) (notFace_of_selects (args := #[]) (mvT hZ1304 (wd116 hw))) (wd116 hw) (wd115 hw) (by decide) q1323_0 rfl (Con.back (W := 2) (rm_tosB l Z a0 hw hl zC SC PC hX b1191 c_1274 kc_1274 [(iv 117), (iv 110), (iv 107), (iv 110), (iv 111), (iv 119), (iv 110), (iv 32), (iv 102), (iv 105), (iv 101), (iv 108), (iv 100), (iv 32), (iv 39), (.int x0), (.int x1), (iv 39), (iv 0), (iv 0), (iv 0), (iv 0), (iv 0), (iv 0), (iv 0), (iv 0), (iv 0), (iv 0), (iv 0), (iv 0), (iv 0), (iv 0), (iv 0), (iv 0)] (18 : Int32) T1323.heap f1342 q1323_0 q1323_1 eq1323_2 q1323_3 eq1323_4 rfl f1341 (by decide)) hZ1304 (wd117 hw) (wd32 hw) (by decide) (by decide)) (by rw [hml]; rfl) (lenOf pd19 rfl) rfl (Nat.le_of_eq rfl) (hb hby d_prog_8m6_25) (q := 28) rfl (by decide) (by decide) ?_
  intro v1339 T1339 L1339 X1339 Q1339
  obtain ⟨r_1339, c_1339, kc_1339, rfl, Nq1339, K1339q, q1339_0, q1339_1, q1339_2, q1339_3, q1339_4, q1339_5⟩ := Q1339
  have N1339 := Fr.app N1323 Nq1339
  have eq1339_5 : Arv Z T1339.heap c_1339 kc_1339 .byte (18 : Int32) [(iv 117), (iv 110), (iv 107), (iv 110), (iv 111), (iv 119), (iv 110), (iv 32), (iv 102), (iv 105), (iv 101), (iv 108), (iv 100), (iv 32), (iv 39), (.int x0), (.int x1), (iv 39)] (.int 0) := q1339_5
  show Go _ _ _ _ (T1339.setTop (mkF m 28 #[.val (.ref a2)] [(.ref r_1339), (.ref b1189), (.ref b1189)]))
  have f1430 := ThS.ext E1189 Th
  have f1431 := ThS.ext E1191 f1430
  have f1432 := ThS.keep K1195q (nsS (Exa.nostat A1191) ns0) f1431
  have f1433 := ThS.ext E1201 f1432
  have f1434 := q1195_6.ext E1201
  have f1435 := ThS.keep K1210q (nsS (Exa.nostat f1211) (nsS (Exa.nostat f1434) ns0)) f1433
  have f1436 := ThS.keep K1274q (nsS (Exa.nostat q1210_0) ns0) f1435
  have f1437 := ThS.ext E1304 f1436
  have f1438 := ThS.keep K1323q (nsS (Exa.nostat f1324) (nsS (Exa.nostat f1340) ns0)) f1437
  have f1439 := ThS.keep K1339q ns0 f1438
  have f1440 := A1189.ext E1191
  have f1441 := f1440.keep K1195q
  have f1442 := f1441.ext E1201
  have f1443 := f1442.keep K1210q
  have f1444 := f1443.keep K1274q
  have f1445 := f1444.ext E1304
  have f1446 := f1445.keep K1323q
  have f1447 := f1446.keep K1339q
  have f1448 := Unt.ext E1191 U1189
  have ne1449 : b1189 ≠ b1191 := (Nat.ne_of_lt (Nat.lt_of_lt_of_le (Nat.lt_of_lt_of_le A1189.lt (Nat.le_refl _)) (Nat.le_of_eq g1191.symm)))
  have f1450 := Unt.keep K1195q (ninS ne1449 nin0) f1448
  have f1451 := Unt.ext E1201 f1450
  have le1452 := E1191.1
  have ne1453 : b1189 ≠ vv_1195 := (Nat.ne_of_lt (Nat.lt_of_lt_of_le (Nat.lt_of_lt_of_le A1189.lt le1452) q1195_4))
  have f1454 := Unt.keep K1210q (ninS ne1449 (ninS ne1453 nin0)) f1451
  have f1455 := Unt.keep K1274q (ninS ne1449 nin0) f1454
  have f1456 := Unt.ext E1304 f1455
  have le1457 := (Nat.le_trans le1452 K1195q.1)
  have le1458 := (Nat.le_trans le1457 E1201.1)
  have le1459 := (Nat.le_trans le1458 K1210q.1)
  have ne1460 : b1189 ≠ c_1274 := (Nat.ne_of_lt (Nat.lt_of_lt_of_le (Nat.lt_of_lt_of_le A1189.lt le1459) q1274_6))
  have f1461 := Unt.keep K1323q (ninS ne1449 (ninS ne1460 nin0)) f1456
  have f1462 := Unt.keep K1339q nin0 f1461
  have gz1463 : Z.heap.size ≤ b1189 := Nat.le_trans O0.2.1 (Nat.le_of_eq g1189.symm)
  have f1464 := Safe.ext E1189 C0.1 sf1190
  have f1465 := Safe.ext E1191 f1199.1 f1464
  have f1466 := Safe.keep K1195q (sfS f1200 sf0) f1202.1 f1465
  have f1467 := R1201.safe (Nat.lt_of_lt_of_le A1189.lt le1457) f1466
  have f1468 := Safe.keep K1210q (sfS f1221 (sfS (safe_len hZ1201 f1215 (own_LN hw _ (by decide))) sf0)) f1302.1 f1467
  have f1469 := Safe.keep K1274q (sfS f1303 sf0) f1305.1 f1468
  have le1470 := (Nat.le_trans le1459 K1274q.1)
  have f1471 := R1304.safe (Nat.lt_of_lt_of_le A1189.lt le1470) f1469
  have f1472 := f1306.trans R1304
  have f1473 := Safe.keep K1323q (sfS f1336 (sfS (safe_len hZ1304 f1328 (own_LN hw _ (by decide))) sf0)) f1472.1 f1471
  have f1474 := f1472.trans (CHr.keep K1323q (sfS f1336 (sfS (safe_len hZ1304 f1328 (own_LN hw _ (by decide))) sf0)) f1472.1)
  have f1475 := Safe.keep K1339q sf0 f1474.1 f1473
  have f1476 := F1189_172.ext E1191
  have f1477 := f1476.keep K1195q (ninS ne1449 nin0)
  have f1478 := f1477.ext E1201
  have f1479 := f1478.keep K1210q (ninS ne1449 (ninS ne1453 nin0))
  have f1480 := f1479.keep K1274q (ninS ne1449 nin0)
  have f1481 := f1480.ext E1304
  have f1482 := f1481.keep K1323q (ninS ne1449 (ninS ne1460 nin0))
  have f1483 := f1482.keep K1339q nin0
  have f1484 := F1189_175.ext E1191
  have f1485 := f1484.keep K1195q (ninS ne1449 nin0)
  have f1486 := f1485.ext E1201
  have f1487 := f1486.keep K1210q (ninS ne1449 (ninS ne1453 nin0))
  have f1488 := f1487.keep K1274q (ninS ne1449 nin0)
  have f1489 := f1488.ext E1304
  have f1490 := f1489.keep K1323q (ninS ne1449 (ninS ne1460 nin0))
  have f1491 := f1490.keep K1339q nin0
  have f1492 := F1189_178.ext E1191
  have f1493 := f1492.keep K1195q (ninS ne1449 nin0)
  have f1494 := f1493.ext E1201
  have f1495 := f1494.keep K1210q (ninS ne1449 (ninS ne1453 nin0))
  have f1496 := f1495.keep K1274q (ninS ne1449 nin0)
  have f1497 := f1496.ext E1304
  have f1498 := f1497.keep K1323q (ninS ne1449 (ninS ne1460 nin0))
  have f1499 := f1498.keep K1339q nin0
  have f1500 := F1189_203.ext E1191
  have f1501 := f1500.keep K1195q (ninS ne1449 nin0)
  have f1502 := f1501.ext E1201
  have f1503 := f1502.keep K1210q (ninS ne1449 (ninS ne1453 nin0))
  have f1504 := f1503.keep K1274q (ninS ne1449 nin0)
  have f1505 := f1504.ext E1304
  have f1506 := f1505.keep K1323q (ninS ne1449 (ninS ne1460 nin0))
  have f1507 := f1506.keep K1339q nin0
  have f1508 := F1189_202.ext E1191
  have f1509 := f1508.keep K1195q (ninS ne1449 nin0)
  have f1510 := f1509.ext E1201
  have f1511 := f1510.keep K1210q (ninS ne1449 (ninS ne1453 nin0))
  have f1512 := f1511.keep K1274q (ninS ne1449 nin0)
  have f1513 := f1512.ext E1304
  have f1514 := f1513.keep K1323q (ninS ne1449 (ninS ne1460 nin0))
  have f1515 := f1514.keep K1339q nin0
  have f1516 := f1342.keep K1339q all0
  have f1517 := f1474.trans (CHr.keep K1339q sf0 f1474.1)
  have le1518 := (Nat.le_trans le1470 E1304.1)
  have le1519 := (Nat.le_trans le1518 K1323q.1)
  have le1520 := (Nat.le_trans le1519 K1339q.1)
  have le1521 := K1323q.1
  have le1522 := (Nat.le_trans le1521 K1339q.1)
  refine g_spS X1339 hx hZ1304 hown1304 hS1304 (Nat.le_trans hk1304 le1522) (wd156 hw) (wd157 hw) (wd158 hw) rfl (by decide) rfl (ConK.back (W := 1) (rm_thr2 l Z a0 hw hl zC SC PC hX b1189 r_1339 T1339.heap f1516 f1439 f1447 f1462 gz1463 f1483 f1491 f1499 f1507 f1515) hZ1304 (wd158 hw) (wd29 hw) (by decide) (by decide) (own_EW hw) f1517.1 (sfS f1475 sf0) (allS (Nat.lt_of_lt_of_le A1189.lt le1520) all0) (Vm.MethodsKnown.alikeC (hZ0.alike.symm.trans hZ1304.alike) hTK0) (Vm.FramesKnown.alikeC (hZ0.alike.symm.trans hZ1304.alike) hBF0)) (by rw [hml]; rfl) (lenOf pd3 rfl) rfl (Nat.le_of_eq rfl) (hb hby d_prog_8m6_28) (q := 31) rfl (by decide) (by decide) ?_
  rintro v1429 T1429 L1429 ⟨X1429, hS1429, hZ1429, hown1429, R1429⟩ Q1429
  obtain ⟨rfl, Nq1429, K1429q, q1429_0⟩ := Q1429
  have N1429 := Fr.app N1339 Nq1429
  show Go _ _ _ _ (T1429.setTop (mkF m 31 #[.val (.ref a2)] [(.ref b1189)]))
  have K1523 : Keep h0 h1189 [] := (Keep.refl h0 []).ext E1189
  have K1524 : Keep h0 h1191 [] := K1523.ext E1191
  have gh1525 : h0.size ≤ b1191 := Nat.le_trans le1282 (Nat.le_of_eq g1191.symm)
  have K1526 : Keep h0 T1195.heap [] := K1524.trans K1195q (allS (Or.inr gh1525) all0)
  have K1527 : Keep h0 h1201 [] := K1526.ext E1201
  have gh1528 : h0.size ≤ vv_1195 := Nat.le_trans le1286 q1195_4
  have K1529 : Keep h0 T1210.heap [] := K1527.trans K1210q (allS (Or.inr gh1525) (allS (Or.inr gh1528) all0))
  have K1530 : Keep h0 T1274.heap [] := K1529.trans K1274q (allS (Or.inr gh1525) all0)
  have K1531 : Keep h0 h1304 [] := K1530.ext E1304
  have le1533 := (Nat.le_trans le1286 K1195q.1)
  have le1534 := (Nat.le_trans le1533 E1201.1)
  have le1535 := (Nat.le_trans le1534 K1210q.1)
  have gh1532 : h0.size ≤ c_1274 := Nat.le_trans le1535 q1274_6
  have K1536 : Keep h0 T1323.heap [] := K1531.trans K1323q (allS (Or.inr gh1525) (allS (Or.inr gh1532) all0))
  have K1537 : Keep h0 T1339.heap [] := K1536.trans K1339q all0
  have gh1538 : h0.size ≤ b1189 := Nat.le_trans (Nat.le_refl _) (Nat.le_of_eq g1189.symm)
  have K1539 : Keep h0 T1429.heap [] := K1537.trans K1429q (allS (Or.inr gh1538) all0)
  have f1540 := f1447.keep K1429q
  have f1541 := q1339_1.keep K1429q
  have ne1542 : r_1339 ≠ b1189 := (Nat.ne_of_gt (Nat.lt_of_lt_of_le (Nat.lt_of_lt_of_le A1189.lt le1519) q1339_0))
  have f1543 := q1339_2.keep K1429q (ninS ne1542 nin0)
  have f1544 := q1339_3.keep K1429q (ninS ne1542 nin0)
  have ne1545 : c_1339 ≠ b1189 := (Nat.ne_of_gt (Nat.lt_of_lt_of_le (Nat.lt_of_lt_of_le A1189.lt le1519) q1339_4))
  have f1546 := eq1339_5.keep K1429q (ninS ne1545 nin0)
  have f1547 := f1517.trans R1429
  refine endC X1429 hlk hS1429 (Nat.le_trans (Nat.le_refl _) (Nat.le_refl _)) hZ1429 (own_EW hw) f1547 (fun h => by rw [hret] at h; cases h) (lastA X1429 hx hret rfl rfl rfl (hb hby d_prog_8m6_31)) ?_ (by decide) (by decide)
  exact ⟨b1189, r_1339, c_1339, kc_1339, rfl, N1429, K1539, gh1538, f1540, q1429_0, f1541, f1543, f1544, f1546⟩
def Q_uf3 (Z : State) (zC : Int32) (a2 : Addr) (t : Addr) (kt : ClassId) (x0 : Int32) (x1 : Int32) (x2 : Int32) (h0 : Heap) (v : Option Value) (h : Heap) (L : List Loc) : Prop := ∃ (r : Addr), ∃ (m : Addr), ∃ (c : Addr), ∃ (kc : ClassId), v = some (.ref r) ∧ Fr Z.heap.size L ∧ Keep h0 h [] ∧ h0.size ≤ r ∧ Exa Z h r sT3 ∧ Fld Z h r sT4 "detailMessage" "Ljava/lang/String;" (.ref m) ∧ Exa Z h m sT1 ∧ Fld Z h m sT1 "coder" "B" (iv 0) ∧ Fld Z h m sT1 "value" "[B" (.ref c) ∧ Arv Z h c kc .byte (19 : Int32) [(iv 117), (iv 110), (iv 107), (iv 110), (iv 111), (iv 119), (iv 110), (iv 32), (iv 102), (iv 105), (iv 101), (iv 108), (iv 100), (iv 32), (iv 39), (.int x0), (.int x1), (.int x2), (iv 39)] (.int 0)
theorem rm_uf3 (l : Launch) (Z : State) (a0 : Array Value) (hw : HW a0 Z) (hl : l.stackTraces = true) (zC : Int32) (SC : tSC Z zC) (PC : ¬ zC = (0 : Int32)) (hX : ExW a0 Z) (a2 : Addr) (t : Addr) (kt : ClassId) (x0 : Int32) (x1 : Int32) (x2 : Int32) (h0 : Heap) (O0 : Old Z Z.heap.size h0) (Th : ThS Z h0) (Pe : Exa Z h0 a2 sT1) (Pc : Fld Z h0 a2 sT1 "coder" "B" (iv 0)) (Pv : Fld Z h0 a2 sT1 "value" "[B" (.ref t)) (Pa : Arv Z h0 t kt .byte (3 : Int32) [(.int x0), (.int x1), (.int x2)] (.int 0)) :
    ConK l Z EL (⟨"com/example/usage_throttle/usagethrottle/io/PolicyFields", "unknownField", sT5⟩ : MethodName) prog_8_method_6_code 1 (some (.object sT3)) ({ frames := 7, cells := 11, slots := 2908, locals := 106 } : Room) #[(.ref a2)] h0 [] (Q_uf3 Z zC a2 t kt x0 x1 x2 h0) := by
  refine ConK.intro (plainFor_of_name pn11) ?_
  intro p e s m below meth c T0 v0 X0 hx hby hml hown0 hnm hret hlk hZ0 e0 hS0 C0 hsl0 hs0 hTK0 hBF0
  have hTh0 : ThS Z s.heap := hs0 ▸ Th
  have N0 := Fr.nil Z.heap.size
  refine castGo (g' := mkF m 0 #[.val (.ref a2)] []) (by first | rfl | (simp [entryFrame, mkF, argsToLocals, Value.category]; done)) ?_
  show Go _ _ _ _ (T0.setTop (mkF m 0 #[.val (.ref a2)] []))
  refine g_newU X0 hx hZ0 hown0 (wd27 hw) (wd28 hw) (wd29 hw) (by decide) (by decide) e0 (hb hby d_prog_8m6_0) (q := 3) rfl ?_
  intro T1548 h1548 b1548 g1548 X1548 e1548 E1548 A1548 D1548 U1548
  have sf1549 : Safe Z EL v0 h0 b1548 := Safe.new (Nat.le_of_eq g1548.symm)
  have F1548_172 := D1548 (Or.inl (wd172 hw)) (ty := (.object sT4)) (by decide)
  have F1548_175 := D1548 (Or.inl (wd175 hw)) (ty := (.array (.object "java/lang/StackTraceElement"))) (by decide)
  have F1548_178 := D1548 (Or.inl (wd178 hw)) (ty := (.object "java/util/List")) (by decide)
  have F1548_202 := D1548 (Or.inl (wd202 hw)) (ty := (.object sT1)) (by decide)
  have F1548_203 := D1548 (Or.inl (wd203 hw)) (ty := (.object "java/lang/Object")) (by decide)
  have F1548_204 := D1548 (Or.inl (wd204 hw)) (ty := .int) (by decide)
  refine g_dup X1548 hx (hb hby d_prog_8m6_3) (q := 4) rfl rfl ?_
  refine g_new X1548 hx hZ0 hown0 (wd30 hw) (wd31 hw) (wd32 hw) (by decide) (by decide) e1548 (hb hby d_prog_8m6_4) (q := 7) rfl ?_
  intro T1550 h1550 b1550 g1550 X1550 e1550 E1550 A1550 D1550
  have sf1551 : Safe Z EL v0 h1548 b1550 := Safe.new (Nat.le_of_eq g1550.symm)
  have F1550_45 := D1550 (Or.inl (wd45 hw)) (ty := (.array .byte)) (by decide)
  have F1550_47 := D1550 (Or.inl (wd47 hw)) (ty := .byte) (by decide)
  have F1550_71 := D1550 (Or.inl (wd71 hw)) (ty := .int) (by decide)
  refine g_dup X1550 hx (hb hby d_prog_8m6_7) (q := 8) rfl rfl ?_
  have f1556 := O0.ext E1548
  have gz1555 : Z.heap.size ≤ b1550 := Nat.le_trans f1556.2.1 (Nat.le_of_eq g1550.symm)
  have f1557 := f1556.ext E1550
  have f1558 := C0.trans (CHr.ext E1548 C0.1)
  have f1559 := Safe.ext E1550 f1558.1 sf1551
  refine g_sp X1550 hx hZ0 hown0 (wd33 hw) (wd34 hw) (wd35 hw) rfl (by decide) e1550 (Con.back (W := 3) (rm_sbinit l Z a0 hw hl zC SC PC hX b1550 h1550 f1557 A1550 F1550_45 F1550_47 F1550_71 gz1555) hZ0 (wd35 hw) (wd32 hw) (by decide) (by decide)) (by rw [hml]; rfl) (lenOf pd22 rfl) rfl (Nat.le_of_eq rfl) (hb hby d_prog_8m6_8) (q := 11) rfl (by decide) (by decide) ?_
  intro v1554 T1554 L1554 X1554 Q1554
  obtain ⟨vv_1554, kv_1554, rfl, Nq1554, K1554q, q1554_0, q1554_1, q1554_2, q1554_3, q1554_4, q1554_5, q1554_6⟩ := Q1554
  have N1554 := Fr.app N0 Nq1554
  show Go _ _ _ _ (T1554.setTop (mkF m 11 #[.val (.ref a2)] [(.ref b1550), (.ref b1548), (.ref b1548)]))
  have f1561 := f1558.trans (CHr.ext E1550 f1558.1)
  have f1562 := f1561.trans (CHr.keep K1554q (sfS f1559 sf0) f1561.1)
  refine g_ldc X1554 hx hZ0 hown0 (wd48 hw) (own_wS hw) hS0 (Nat.zero_le _) (own_EW hw) (by simp [EL]) f1562.1 (vs := [(iv 117), (iv 110), (iv 107), (iv 110), (iv 111), (iv 119), (iv 110), (iv 32), (iv 102), (iv 105), (iv 101), (iv 108), (iv 100), (iv 32), (iv 39)]) (z := (15 : Int32)) ⟨by decide, by decide⟩ (by decide) (by decide) (n := 60) (by decide) (by decide) (by decide) (by decide) rfl (hb hby d_prog_8m6_11) (q := 13) rfl ?_
  intro b1560 T1560 h1560 kk1560 d1560 k1560 X1560 e1560 E1560 hS1560 hk1560 hZ1560 hown1560 A1560 Fc1560 Fv1560 V1560 lta1560 ltb1560 R1560 sn1560
  have f1570 := q1554_0.ext E1560
  have f1571 := q1554_2.ext E1560
  have f1572 := q1554_3.ext E1560
  have f1573 := q1554_1.ext E1560
  have f1574 := q1554_5.ext E1560
  have gz1575 : Z.heap.size ≤ vv_1554 := Nat.le_trans f1557.2.1 q1554_4
  have f1576 := f1557.keep K1554q (allS gz1555 all0)
  have f1577 := f1576.ext E1560
  have f1578 := Safe.keep K1554q (sfS f1559 sf0) f1561.1 f1559
  have le1579 := K1554q.1
  have f1580 := R1560.safe (Nat.lt_of_lt_of_le A1550.lt le1579) f1578
  refine g_vi X1560 hx hZ1560 hown1560 (wd49 hw) (wd50 hw) (notFace_of_selects (args := #[]) (mvT hZ1560 (wd52 hw))) (wd52 hw) (wd51 hw) (by decide) f1570 e1560 (Con.back (W := 2) (rm_sapA l Z a0 hw hl zC SC PC hX b1550 vv_1554 kv_1554 (List.replicate 16 (iv 0)) b1560 d1560 k1560 [(iv 117), (iv 110), (iv 107), (iv 110), (iv 111), (iv 119), (iv 110), (iv 32), (iv 102), (iv 105), (iv 101), (iv 108), (iv 100), (iv 32), (iv 39)] h1560 f1577 f1570 f1571 f1572 f1573 f1574 rfl gz1555 gz1575 A1560 Fc1560 Fv1560 V1560 rfl) hZ1560 (wd53 hw) (wd32 hw) (by decide) (by decide)) (by rw [hml]; rfl) (lenOf pd21 rfl) rfl (Nat.le_of_eq rfl) (hb hby d_prog_8m6_13) (q := 16) rfl (by decide) (by decide) ?_
  intro v1569 T1569 L1569 X1569 Q1569
  obtain ⟨rfl, Nq1569, K1569q, q1569_0, q1569_1, q1569_2, q1569_3, q1569_4, q1569_5⟩ := Q1569
  have N1569 := Fr.app N1554 Nq1569
  have eq1569_4 : Arv Z T1569.heap vv_1554 kv_1554 .byte (16 : Int32) [(iv 117), (iv 110), (iv 107), (iv 110), (iv 111), (iv 119), (iv 110), (iv 32), (iv 102), (iv 105), (iv 101), (iv 108), (iv 100), (iv 32), (iv 39), (iv 0)] (.int 0) := q1569_4
  show Go _ _ _ _ (T1569.setTop (mkF m 16 #[.val (.ref a2)] [(.ref b1550), (.ref b1548), (.ref b1548)]))
  refine aL X1569 hx (hb hby d_prog_8m6_16) (q := 17) rfl rfl rfl ?_
  have f1634 := Pe.ext E1548
  have f1635 := f1634.ext E1550
  have f1636 := f1635.keep K1554q
  have f1637 := f1636.ext E1560
  have f1638 := f1637.keep K1569q
  have f1639 := Pc.ext E1548
  have f1640 := f1639.ext E1550
  have le1641 := E1548.1
  have ne1642 : a2 ≠ b1550 := (Nat.ne_of_lt (Nat.lt_of_lt_of_le (Nat.lt_of_lt_of_le Pe.lt le1641) (Nat.le_of_eq g1550.symm)))
  have f1643 := f1640.keep K1554q (ninS ne1642 nin0)
  have f1644 := f1643.ext E1560
  have le1645 := (Nat.le_trans le1641 E1550.1)
  have ne1646 : a2 ≠ vv_1554 := (Nat.ne_of_lt (Nat.lt_of_lt_of_le (Nat.lt_of_lt_of_le Pe.lt le1645) q1554_4))
  have f1647 := f1644.keep K1569q (ninS ne1642 (ninS ne1646 nin0))
  have f1648 := Pv.ext E1548
  have f1649 := f1648.ext E1550
  have f1650 := f1649.keep K1554q (ninS ne1642 nin0)
  have f1651 := f1650.ext E1560
  have f1652 := f1651.keep K1569q (ninS ne1642 (ninS ne1646 nin0))
  have f1653 := Pa.ext E1548
  have f1654 := f1653.ext E1550
  have ne1655 : t ≠ b1550 := (Nat.ne_of_lt (Nat.lt_of_lt_of_le (Nat.lt_of_lt_of_le Pa.lt le1641) (Nat.le_of_eq g1550.symm)))
  have f1656 := f1654.keep K1554q (ninS ne1655 nin0)
  have f1657 := f1656.ext E1560
  have ne1658 : t ≠ vv_1554 := (Nat.ne_of_lt (Nat.lt_of_lt_of_le (Nat.lt_of_lt_of_le Pa.lt le1645) q1554_4))
  have f1659 := f1657.keep K1569q (ninS ne1655 (ninS ne1658 nin0))
  have f1660 := f1577.keep K1569q (allS gz1555 (allS gz1575 all0))
  have f1661 := f1562.trans R1560
  have f1662 := Safe.keep K1569q (sfS f1580 (sfS (safe_len hZ1560 f1574 (own_LN hw _ (by decide))) sf0)) f1661.1 f1580
  refine g_vi X1569 hx hZ1560 hown1560 (wd97 hw) (wd98 hw) (notFace_of_selects (args := #[]) (mvT hZ1560 (wd100 hw))) (wd100 hw) (wd99 hw) (by decide) q1569_0 rfl (Con.back (W := 2) (rm_apoG l Z a0 hw hl zC SC PC hX b1550 vv_1554 kv_1554 [(iv 117), (iv 110), (iv 107), (iv 110), (iv 111), (iv 119), (iv 110), (iv 32), (iv 102), (iv 105), (iv 101), (iv 108), (iv 100), (iv 32), (iv 39), (iv 0)] a2 t kt [(.int x0), (.int x1), (.int x2)] (3 : Int32) T1569.heap f1660 q1569_0 q1569_1 q1569_2 q1569_3 eq1569_4 rfl gz1555 gz1575 f1638 f1647 f1652 f1659 rfl (by decide)) hZ1560 (wd101 hw) (wd32 hw) (by decide) (by decide)) (by rw [hml]; rfl) (lenOf pd23 rfl) rfl (Nat.le_of_eq rfl) (hb hby d_prog_8m6_17) (q := 20) rfl (by decide) (by decide) ?_
  intro v1633 T1633 L1633 X1633 Q1633
  obtain ⟨c_1633, kc_1633, rfl, Nq1633, K1633q, q1633_0, q1633_1, q1633_2, q1633_3, q1633_4, q1633_5, q1633_6, q1633_7⟩ := Q1633
  have N1633 := Fr.app N1569 Nq1633
  have eq1633_2 : Fld Z T1633.heap b1550 sT0 "count" "I" (iv 18) := by have := q1633_2; rwa [show ((15 : Int32) + (3 : Int32)) = (18 : Int32) from by decide] at this
  have eq1633_4 : Arv Z T1633.heap c_1633 kc_1633 .byte (34 : Int32) [(iv 117), (iv 110), (iv 107), (iv 110), (iv 111), (iv 119), (iv 110), (iv 32), (iv 102), (iv 105), (iv 101), (iv 108), (iv 100), (iv 32), (iv 39), (.int x0), (.int x1), (.int x2), (iv 0), (iv 0), (iv 0), (iv 0), (iv 0), (iv 0), (iv 0), (iv 0), (iv 0), (iv 0), (iv 0), (iv 0), (iv 0), (iv 0), (iv 0), (iv 0)] (.int 0) := q1633_4
  show Go _ _ _ _ (T1633.setTop (mkF m 20 #[.val (.ref a2)] [(.ref b1550), (.ref b1548), (.ref b1548)]))
  have f1664 := f1661.trans (CHr.keep K1569q (sfS f1580 (sfS (safe_len hZ1560 f1574 (own_LN hw _ (by decide))) sf0)) f1661.1)
  have f1665 := f1664.trans (CHr.keep K1633q (sfS f1662 sf0) f1664.1)
  have le1666 := K1569q.1
  have le1667 := (Nat.le_trans le1666 K1633q.1)
  refine g_ldc X1633 hx hZ1560 hown1560 (wd112 hw) (own_wS hw) hS1560 (Nat.le_trans hk1560 le1667) (own_EW hw) (by simp [EL]) f1665.1 (vs := [(iv 39)]) (z := (1 : Int32)) ⟨by decide, by decide⟩ (by decide) (by decide) (n := 4) (by decide) (by decide) (by decide) (by decide) rfl (hb hby d_prog_8m6_20) (q := 22) rfl ?_
  intro b1663 T1663 h1663 kk1663 d1663 k1663 X1663 e1663 E1663 hS1663 hk1663 hZ1663 hown1663 A1663 Fc1663 Fv1663 V1663 lta1663 ltb1663 R1663 sn1663
  have f1683 := q1633_0.ext E1663
  have f1684 := q1633_1.ext E1663
  have f1685 := eq1633_2.ext E1663
  have f1686 := q1633_3.ext E1663
  have f1687 := eq1633_4.ext E1663
  have gz1688 : Z.heap.size ≤ c_1633 := Nat.le_trans f1660.2.1 q1633_6
  have f1689 := f1660.keep K1633q (allS gz1555 all0)
  have f1690 := f1689.ext E1663
  have f1691 := Safe.keep K1633q (sfS f1662 sf0) f1664.1 f1662
  have le1692 := (Nat.le_trans le1579 E1560.1)
  have le1693 := (Nat.le_trans le1692 K1569q.1)
  have le1694 := (Nat.le_trans le1693 K1633q.1)
  have f1695 := R1663.safe (Nat.lt_of_lt_of_le A1550.lt le1694) f1691
  refine g_vi X1663 hx hZ1663 hown1663 (wd49 hw) (wd50 hw) (notFace_of_selects (args := #[]) (mvT hZ1663 (wd52 hw))) (wd52 hw) (wd51 hw) (by decide) f1683 e1663 (Con.back (W := 2) (rm_sapH l Z a0 hw hl zC SC PC hX b1550 c_1633 kc_1633 [(iv 117), (iv 110), (iv 107), (iv 110), (iv 111), (iv 119), (iv 110), (iv 32), (iv 102), (iv 105), (iv 101), (iv 108), (iv 100), (iv 32), (iv 39), (.int x0), (.int x1), (.int x2), (iv 0), (iv 0), (iv 0), (iv 0), (iv 0), (iv 0), (iv 0), (iv 0), (iv 0), (iv 0), (iv 0), (iv 0), (iv 0), (iv 0), (iv 0), (iv 0)] b1663 d1663 k1663 [(iv 39)] (18 : Int32) h1663 f1690 f1683 f1684 f1685 f1686 f1687 rfl gz1555 gz1688 A1663 Fc1663 Fv1663 V1663 rfl (by decide)) hZ1663 (wd53 hw) (wd32 hw) (by decide) (by decide)) (by rw [hml]; rfl) (lenOf pd21 rfl) rfl (Nat.le_of_eq rfl) (hb hby d_prog_8m6_22) (q := 25) rfl (by decide) (by decide) ?_
  intro v1682 T1682 L1682 X1682 Q1682
  obtain ⟨rfl, Nq1682, K1682q, q1682_0, q1682_1, q1682_2, q1682_3, q1682_4, q1682_5⟩ := Q1682
  have N1682 := Fr.app N1633 Nq1682
  have eq1682_2 : Fld Z T1682.heap b1550 sT0 "count" "I" (iv 19) := by have := q1682_2; rwa [show ((18 : Int32) + (1 : Int32)) = (19 : Int32) from by decide] at this
  have eq1682_4 : Arv Z T1682.heap c_1633 kc_1633 .byte (34 : Int32) [(iv 117), (iv 110), (iv 107), (iv 110), (iv 111), (iv 119), (iv 110), (iv 32), (iv 102), (iv 105), (iv 101), (iv 108), (iv 100), (iv 32), (iv 39), (.int x0), (.int x1), (.int x2), (iv 39), (iv 0), (iv 0), (iv 0), (iv 0), (iv 0), (iv 0), (iv 0), (iv 0), (iv 0), (iv 0), (iv 0), (iv 0), (iv 0), (iv 0), (iv 0)] (.int 0) := q1682_4
  show Go _ _ _ _ (T1682.setTop (mkF m 25 #[.val (.ref a2)] [(.ref b1550), (.ref b1548), (.ref b1548)]))
  have f1699 := q1633_7.ext E1663
  have f1700 := f1699.keep K1682q
  have f1701 := f1690.keep K1682q (allS gz1555 (allS gz1688 all0))
  refine g_vi X1682 hx hZ1663 hown1663 (wd113 hw) (wd114 hw) (notFace_of_selects (args := #[]) (mvT hZ1663 (wd116 hw))) (wd116 hw) (wd115 hw) (by decide) q1682_0 rfl (Con.back (W := 2) (rm_tosB l Z a0 hw hl zC SC PC hX b1550 c_1633 kc_1633 [(iv 117), (iv 110), (iv 107), (iv 110), (iv 111), (iv 119), (iv 110), (iv 32), (iv 102), (iv 105), (iv 101), (iv 108), (iv 100), (iv 32), (iv 39), (.int x0), (.int x1), (.int x2), (iv 39), (iv 0), (iv 0), (iv 0), (iv 0), (iv 0), (iv 0), (iv 0), (iv 0), (iv 0), (iv 0), (iv 0), (iv 0), (iv 0), (iv 0), (iv 0)] (19 : Int32) T1682.heap f1701 q1682_0 q1682_1 eq1682_2 q1682_3 eq1682_4 rfl f1700 (by decide)) hZ1663 (wd117 hw) (wd32 hw) (by decide) (by decide)) (by rw [hml]; rfl) (lenOf pd19 rfl) rfl (Nat.le_of_eq rfl) (hb hby d_prog_8m6_25) (q := 28) rfl (by decide) (by decide) ?_
  intro v1698 T1698 L1698 X1698 Q1698
  obtain ⟨r_1698, c_1698, kc_1698, rfl, Nq1698, K1698q, q1698_0, q1698_1, q1698_2, q1698_3, q1698_4, q1698_5⟩ := Q1698
  have N1698 := Fr.app N1682 Nq1698
  have eq1698_5 : Arv Z T1698.heap c_1698 kc_1698 .byte (19 : Int32) [(iv 117), (iv 110), (iv 107), (iv 110), (iv 111), (iv 119), (iv 110), (iv 32), (iv 102), (iv 105), (iv 101), (iv 108), (iv 100), (iv 32), (iv 39), (.int x0), (.int x1), (.int x2), (iv 39)] (.int 0) := q1698_5
  show Go _ _ _ _ (T1698.setTop (mkF m 28 #[.val (.ref a2)] [(.ref r_1698), (.ref b1548), (.ref b1548)]))
  have f1789 := ThS.ext E1548 Th
  have f1790 := ThS.ext E1550 f1789
  have f1791 := ThS.keep K1554q (nsS (Exa.nostat A1550) ns0) f1790
  have f1792 := ThS.ext E1560 f1791
  have f1793 := q1554_6.ext E1560
  have f1794 := ThS.keep K1569q (nsS (Exa.nostat f1570) (nsS (Exa.nostat f1793) ns0)) f1792
  have f1795 := ThS.keep K1633q (nsS (Exa.nostat q1569_0) ns0) f1794
  have f1796 := ThS.ext E1663 f1795
  have f1797 := ThS.keep K1682q (nsS (Exa.nostat f1683) (nsS (Exa.nostat f1699) ns0)) f1796
  have f1798 := ThS.keep K1698q ns0 f1797
  have f1799 := A1548.ext E1550
  have f1800 := f1799.keep K1554q
  have f1801 := f1800.ext E1560
  have f1802 := f1801.keep K1569q
  have f1803 := f1802.keep K1633q
  have f1804 := f1803.ext E1663
  have f1805 := f1804.keep K1682q
  have f1806 := f1805.keep K1698q
  have f1807 := Unt.ext E1550 U1548
  have ne1808 : b1548 ≠ b1550 := (Nat.ne_of_lt (Nat.lt_of_lt_of_le (Nat.lt_of_lt_of_le A1548.lt (Nat.le_refl _)) (Nat.le_of_eq g1550.symm)))
  have f1809 := Unt.keep K1554q (ninS ne1808 nin0) f1807
  have f1810 := Unt.ext E1560 f1809
  have le1811 := E1550.1
  have ne1812 : b1548 ≠ vv_1554 := (Nat.ne_of_lt (Nat.lt_of_lt_of_le (Nat.lt_of_lt_of_le A1548.lt le1811) q1554_4))
  have f1813 := Unt.keep K1569q (ninS ne1808 (ninS ne1812 nin0)) f1810
  have f1814 := Unt.keep K1633q (ninS ne1808 nin0) f1813
  have f1815 := Unt.ext E1663 f1814
  have le1816 := (Nat.le_trans le1811 K1554q.1)
  have le1817 := (Nat.le_trans le1816 E1560.1)
  have le1818 := (Nat.le_trans le1817 K1569q.1)
  have ne1819 : b1548 ≠ c_1633 := (Nat.ne_of_lt (Nat.lt_of_lt_of_le (Nat.lt_of_lt_of_le A1548.lt le1818) q1633_6))
  have f1820 := Unt.keep K1682q (ninS ne1808 (ninS ne1819 nin0)) f1815
  have f1821 := Unt.keep K1698q nin0 f1820
  have gz1822 : Z.heap.size ≤ b1548 := Nat.le_trans O0.2.1 (Nat.le_of_eq g1548.symm)
  have f1823 := Safe.ext E1548 C0.1 sf1549
  have f1824 := Safe.ext E1550 f1558.1 f1823
  have f1825 := Safe.keep K1554q (sfS f1559 sf0) f1561.1 f1824
  have f1826 := R1560.safe (Nat.lt_of_lt_of_le A1548.lt le1816) f1825
  have f1827 := Safe.keep K1569q (sfS f1580 (sfS (safe_len hZ1560 f1574 (own_LN hw _ (by decide))) sf0)) f1661.1 f1826
  have f1828 := Safe.keep K1633q (sfS f1662 sf0) f1664.1 f1827
  have le1829 := (Nat.le_trans le1818 K1633q.1)
  have f1830 := R1663.safe (Nat.lt_of_lt_of_le A1548.lt le1829) f1828
  have f1831 := f1665.trans R1663
  have f1832 := Safe.keep K1682q (sfS f1695 (sfS (safe_len hZ1663 f1687 (own_LN hw _ (by decide))) sf0)) f1831.1 f1830
  have f1833 := f1831.trans (CHr.keep K1682q (sfS f1695 (sfS (safe_len hZ1663 f1687 (own_LN hw _ (by decide))) sf0)) f1831.1)
  have f1834 := Safe.keep K1698q sf0 f1833.1 f1832
  have f1835 := F1548_172.ext E1550
  have f1836 := f1835.keep K1554q (ninS ne1808 nin0)
  have f1837 := f1836.ext E1560
  have f1838 := f1837.keep K1569q (ninS ne1808 (ninS ne1812 nin0))
  have f1839 := f1838.keep K1633q (ninS ne1808 nin0)
  have f1840 := f1839.ext E1663
  have f1841 := f1840.keep K1682q (ninS ne1808 (ninS ne1819 nin0))
  have f1842 := f1841.keep K1698q nin0
  have f1843 := F1548_175.ext E1550
  have f1844 := f1843.keep K1554q (ninS ne1808 nin0)
  have f1845 := f1844.ext E1560
  have f1846 := f1845.keep K1569q (ninS ne1808 (ninS ne1812 nin0))
  have f1847 := f1846.keep K1633q (ninS ne1808 nin0)
  have f1848 := f1847.ext E1663
  have f1849 := f1848.keep K1682q (ninS ne1808 (ninS ne1819 nin0))
  have f1850 := f1849.keep K1698q nin0
  have f1851 := F1548_178.ext E1550
  have f1852 := f1851.keep K1554q (ninS ne1808 nin0)
  have f1853 := f1852.ext E1560
  have f1854 := f1853.keep K1569q (ninS ne1808 (ninS ne1812 nin0))
  have f1855 := f1854.keep K1633q (ninS ne1808 nin0)
  have f1856 := f1855.ext E1663
  have f1857 := f1856.keep K1682q (ninS ne1808 (ninS ne1819 nin0))
  have f1858 := f1857.keep K1698q nin0
  have f1859 := F1548_203.ext E1550
  have f1860 := f1859.keep K1554q (ninS ne1808 nin0)
  have f1861 := f1860.ext E1560
  have f1862 := f1861.keep K1569q (ninS ne1808 (ninS ne1812 nin0))
  have f1863 := f1862.keep K1633q (ninS ne1808 nin0)
  have f1864 := f1863.ext E1663
  have f1865 := f1864.keep K1682q (ninS ne1808 (ninS ne1819 nin0))
  have f1866 := f1865.keep K1698q nin0
  have f1867 := F1548_202.ext E1550
  have f1868 := f1867.keep K1554q (ninS ne1808 nin0)
  have f1869 := f1868.ext E1560
  have f1870 := f1869.keep K1569q (ninS ne1808 (ninS ne1812 nin0))
  have f1871 := f1870.keep K1633q (ninS ne1808 nin0)
  have f1872 := f1871.ext E1663
  have f1873 := f1872.keep K1682q (ninS ne1808 (ninS ne1819 nin0))
  have f1874 := f1873.keep K1698q nin0
  have f1875 := f1701.keep K1698q all0
  have f1876 := f1833.trans (CHr.keep K1698q sf0 f1833.1)
  have le1877 := (Nat.le_trans le1829 E1663.1)
  have le1878 := (Nat.le_trans le1877 K1682q.1)
  have le1879 := (Nat.le_trans le1878 K1698q.1)
  have le1880 := K1682q.1
  have le1881 := (Nat.le_trans le1880 K1698q.1)
  refine g_spS X1698 hx hZ1663 hown1663 hS1663 (Nat.le_trans hk1663 le1881) (wd156 hw) (wd157 hw) (wd158 hw) rfl (by decide) rfl (ConK.back (W := 1) (rm_thr2 l Z a0 hw hl zC SC PC hX b1548 r_1698 T1698.heap f1875 f1798 f1806 f1821 gz1822 f1842 f1850 f1858 f1866 f1874) hZ1663 (wd158 hw) (wd29 hw) (by decide) (by decide) (own_EW hw) f1876.1 (sfS f1834 sf0) (allS (Nat.lt_of_lt_of_le A1548.lt le1879) all0) (Vm.MethodsKnown.alikeC (hZ0.alike.symm.trans hZ1663.alike) hTK0) (Vm.FramesKnown.alikeC (hZ0.alike.symm.trans hZ1663.alike) hBF0)) (by rw [hml]; rfl) (lenOf pd3 rfl) rfl (Nat.le_of_eq rfl) (hb hby d_prog_8m6_28) (q := 31) rfl (by decide) (by decide) ?_
  rintro v1788 T1788 L1788 ⟨X1788, hS1788, hZ1788, hown1788, R1788⟩ Q1788
  obtain ⟨rfl, Nq1788, K1788q, q1788_0⟩ := Q1788
  have N1788 := Fr.app N1698 Nq1788
  show Go _ _ _ _ (T1788.setTop (mkF m 31 #[.val (.ref a2)] [(.ref b1548)]))
  have K1882 : Keep h0 h1548 [] := (Keep.refl h0 []).ext E1548
  have K1883 : Keep h0 h1550 [] := K1882.ext E1550
  have gh1884 : h0.size ≤ b1550 := Nat.le_trans le1641 (Nat.le_of_eq g1550.symm)
  have K1885 : Keep h0 T1554.heap [] := K1883.trans K1554q (allS (Or.inr gh1884) all0)
  have K1886 : Keep h0 h1560 [] := K1885.ext E1560
  have gh1887 : h0.size ≤ vv_1554 := Nat.le_trans le1645 q1554_4
  have K1888 : Keep h0 T1569.heap [] := K1886.trans K1569q (allS (Or.inr gh1884) (allS (Or.inr gh1887) all0))
  have K1889 : Keep h0 T1633.heap [] := K1888.trans K1633q (allS (Or.inr gh1884) all0)
  have K1890 : Keep h0 h1663 [] := K1889.ext E1663
  have le1892 := (Nat.le_trans le1645 K1554q.1)
  have le1893 := (Nat.le_trans le1892 E1560.1)
  have le1894 := (Nat.le_trans le1893 K1569q.1)
  have gh1891 : h0.size ≤ c_1633 := Nat.le_trans le1894 q1633_6
  have K1895 : Keep h0 T1682.heap [] := K1890.trans K1682q (allS (Or.inr gh1884) (allS (Or.inr gh1891) all0))
  have K1896 : Keep h0 T1698.heap [] := K1895.trans K1698q all0
  have gh1897 : h0.size ≤ b1548 := Nat.le_trans (Nat.le_refl _) (Nat.le_of_eq g1548.symm)
  have K1898 : Keep h0 T1788.heap [] := K1896.trans K1788q (allS (Or.inr gh1897) all0)
  have f1899 := f1806.keep K1788q
  have f1900 := q1698_1.keep K1788q
  have ne1901 : r_1698 ≠ b1548 := (Nat.ne_of_gt (Nat.lt_of_lt_of_le (Nat.lt_of_lt_of_le A1548.lt le1878) q1698_0))
  have f1902 := q1698_2.keep K1788q (ninS ne1901 nin0)
  have f1903 := q1698_3.keep K1788q (ninS ne1901 nin0)
  have ne1904 : c_1698 ≠ b1548 := (Nat.ne_of_gt (Nat.lt_of_lt_of_le (Nat.lt_of_lt_of_le A1548.lt le1878) q1698_4))
  have f1905 := eq1698_5.keep K1788q (ninS ne1904 nin0)
  have f1906 := f1876.trans R1788
  refine endC X1788 hlk hS1788 (Nat.le_trans (Nat.le_refl _) (Nat.le_refl _)) hZ1788 (own_EW hw) f1906 (fun h => by rw [hret] at h; cases h) (lastA X1788 hx hret rfl rfl rfl (hb hby d_prog_8m6_31)) ?_ (by decide) (by decide)
  exact ⟨b1548, r_1698, c_1698, kc_1698, rfl, N1788, K1898, gh1897, f1899, q1788_0, f1900, f1902, f1903, f1905⟩
def Q_uf4 (Z : State) (zC : Int32) (h0 : Heap) (v : Option Value) (h : Heap) (L : List Loc) : Prop := ∃ (r : Addr), ∃ (m : Addr), ∃ (c : Addr), ∃ (kc : ClassId), v = some (.ref r) ∧ Fr Z.heap.size L ∧ Keep h0 h [] ∧ h0.size ≤ r ∧ Exa Z h r sT3 ∧ Fld Z h r sT4 "detailMessage" "Ljava/lang/String;" (.ref m) ∧ Exa Z h m sT1 ∧ Fld Z h m sT1 "coder" "B" (iv 0) ∧ Fld Z h m sT1 "value" "[B" (.ref c) ∧ Arv Z h c kc .byte (20 : Int32) [(iv 117), (iv 110), (iv 107), (iv 110), (iv 111), (iv 119), (iv 110), (iv 32), (iv 102), (iv 105), (iv 101), (iv 108), (iv 100), (iv 32), (iv 39), (iv 110), (iv 117), (iv 108), (iv 108), (iv 39)] (.int 0)
theorem rm_uf4 (l : Launch) (Z : State) (a0 : Array Value) (hw : HW a0 Z) (hl : l.stackTraces = true) (zC : Int32) (SC : tSC Z zC) (PC : ¬ zC = (0 : Int32)) (hX : ExW a0 Z)  (h0 : Heap) (O0 : Old Z Z.heap.size h0) (Th : ThS Z h0) :
    ConK l Z EL (⟨"com/example/usage_throttle/usagethrottle/io/PolicyFields", "unknownField", sT5⟩ : MethodName) prog_8_method_6_code 1 (some (.object sT3)) ({ frames := 7, cells := 13, slots := 2928, locals := 106 } : Room) #[.null] h0 [] (Q_uf4 Z zC h0) := by
  refine ConK.intro (plainFor_of_name pn11) ?_
  intro p e s m below meth c T0 v0 X0 hx hby hml hown0 hnm hret hlk hZ0 e0 hS0 C0 hsl0 hs0 hTK0 hBF0
  have hTh0 : ThS Z s.heap := hs0 ▸ Th
  have N0 := Fr.nil Z.heap.size
  refine castGo (g' := mkF m 0 #[.val .null] []) (by first | rfl | (simp [entryFrame, mkF, argsToLocals, Value.category]; done)) ?_
  show Go _ _ _ _ (T0.setTop (mkF m 0 #[.val .null] []))
  refine g_newU X0 hx hZ0 hown0 (wd27 hw) (wd28 hw) (wd29 hw) (by decide) (by decide) e0 (hb hby d_prog_8m6_0) (q := 3) rfl ?_
  intro T1907 h1907 b1907 g1907 X1907 e1907 E1907 A1907 D1907 U1907
  have sf1908 : Safe Z EL v0 h0 b1907 := Safe.new (Nat.le_of_eq g1907.symm)
  have F1907_172 := D1907 (Or.inl (wd172 hw)) (ty := (.object sT4)) (by decide)
  have F1907_175 := D1907 (Or.inl (wd175 hw)) (ty := (.array (.object "java/lang/StackTraceElement"))) (by decide)
  have F1907_178 := D1907 (Or.inl (wd178 hw)) (ty := (.object "java/util/List")) (by decide)
  have F1907_202 := D1907 (Or.inl (wd202 hw)) (ty := (.object sT1)) (by decide)
  have F1907_203 := D1907 (Or.inl (wd203 hw)) (ty := (.object "java/lang/Object")) (by decide)
  have F1907_204 := D1907 (Or.inl (wd204 hw)) (ty := .int) (by decide)
  refine g_dup X1907 hx (hb hby d_prog_8m6_3) (q := 4) rfl rfl ?_
  refine g_new X1907 hx hZ0 hown0 (wd30 hw) (wd31 hw) (wd32 hw) (by decide) (by decide) e1907 (hb hby d_prog_8m6_4) (q := 7) rfl ?_
  intro T1909 h1909 b1909 g1909 X1909 e1909 E1909 A1909 D1909
  have sf1910 : Safe Z EL v0 h1907 b1909 := Safe.new (Nat.le_of_eq g1909.symm)
  have F1909_45 := D1909 (Or.inl (wd45 hw)) (ty := (.array .byte)) (by decide)
  have F1909_47 := D1909 (Or.inl (wd47 hw)) (ty := .byte) (by decide)
  have F1909_71 := D1909 (Or.inl (wd71 hw)) (ty := .int) (by decide)
  refine g_dup X1909 hx (hb hby d_prog_8m6_7) (q := 8) rfl rfl ?_
  have f1915 := O0.ext E1907
  have gz1914 : Z.heap.size ≤ b1909 := Nat.le_trans f1915.2.1 (Nat.le_of_eq g1909.symm)
  have f1916 := f1915.ext E1909
  have f1917 := C0.trans (CHr.ext E1907 C0.1)
  have f1918 := Safe.ext E1909 f1917.1 sf1910
  refine g_sp X1909 hx hZ0 hown0 (wd33 hw) (wd34 hw) (wd35 hw) rfl (by decide) e1909 (Con.back (W := 3) (rm_sbinit l Z a0 hw hl zC SC PC hX b1909 h1909 f1916 A1909 F1909_45 F1909_47 F1909_71 gz1914) hZ0 (wd35 hw) (wd32 hw) (by decide) (by decide)) (by rw [hml]; rfl) (lenOf pd22 rfl) rfl (Nat.le_of_eq rfl) (hb hby d_prog_8m6_8) (q := 11) rfl (by decide) (by decide) ?_
  intro v1913 T1913 L1913 X1913 Q1913
  obtain ⟨vv_1913, kv_1913, rfl, Nq1913, K1913q, q1913_0, q1913_1, q1913_2, q1913_3, q1913_4, q1913_5, q1913_6⟩ := Q1913
  have N1913 := Fr.app N0 Nq1913
  show Go _ _ _ _ (T1913.setTop (mkF m 11 #[.val .null] [(.ref b1909), (.ref b1907), (.ref b1907)]))
  have f1920 := f1917.trans (CHr.ext E1909 f1917.1)
  have f1921 := f1920.trans (CHr.keep K1913q (sfS f1918 sf0) f1920.1)
  refine g_ldc X1913 hx hZ0 hown0 (wd48 hw) (own_wS hw) hS0 (Nat.zero_le _) (own_EW hw) (by simp [EL]) f1921.1 (vs := [(iv 117), (iv 110), (iv 107), (iv 110), (iv 111), (iv 119), (iv 110), (iv 32), (iv 102), (iv 105), (iv 101), (iv 108), (iv 100), (iv 32), (iv 39)]) (z := (15 : Int32)) ⟨by decide, by decide⟩ (by decide) (by decide) (n := 60) (by decide) (by decide) (by decide) (by decide) rfl (hb hby d_prog_8m6_11) (q := 13) rfl ?_
  intro b1919 T1919 h1919 kk1919 d1919 k1919 X1919 e1919 E1919 hS1919 hk1919 hZ1919 hown1919 A1919 Fc1919 Fv1919 V1919 lta1919 ltb1919 R1919 sn1919
  have f1929 := q1913_0.ext E1919
  have f1930 := q1913_2.ext E1919
  have f1931 := q1913_3.ext E1919
  have f1932 := q1913_1.ext E1919
  have f1933 := q1913_5.ext E1919
  have gz1934 : Z.heap.size ≤ vv_1913 := Nat.le_trans f1916.2.1 q1913_4
  have f1935 := f1916.keep K1913q (allS gz1914 all0)
  have f1936 := f1935.ext E1919
  have f1937 := Safe.keep K1913q (sfS f1918 sf0) f1920.1 f1918
  have le1938 := K1913q.1
  have f1939 := R1919.safe (Nat.lt_of_lt_of_le A1909.lt le1938) f1937
  refine g_vi X1919 hx hZ1919 hown1919 (wd49 hw) (wd50 hw) (notFace_of_selects (args := #[]) (mvT hZ1919 (wd52 hw))) (wd52 hw) (wd51 hw) (by decide) f1929 e1919 (Con.back (W := 2) (rm_sapA l Z a0 hw hl zC SC PC hX b1909 vv_1913 kv_1913 (List.replicate 16 (iv 0)) b1919 d1919 k1919 [(iv 117), (iv 110), (iv 107), (iv 110), (iv 111), (iv 119), (iv 110), (iv 32), (iv 102), (iv 105), (iv 101), (iv 108), (iv 100), (iv 32), (iv 39)] h1919 f1936 f1929 f1930 f1931 f1932 f1933 rfl gz1914 gz1934 A1919 Fc1919 Fv1919 V1919 rfl) hZ1919 (wd53 hw) (wd32 hw) (by decide) (by decide)) (by rw [hml]; rfl) (lenOf pd21 rfl) rfl (Nat.le_of_eq rfl) (hb hby d_prog_8m6_13) (q := 16) rfl (by decide) (by decide) ?_
  intro v1928 T1928 L1928 X1928 Q1928
  obtain ⟨rfl, Nq1928, K1928q, q1928_0, q1928_1, q1928_2, q1928_3, q1928_4, q1928_5⟩ := Q1928
  have N1928 := Fr.app N1913 Nq1928
  have eq1928_4 : Arv Z T1928.heap vv_1913 kv_1913 .byte (16 : Int32) [(iv 117), (iv 110), (iv 107), (iv 110), (iv 111), (iv 119), (iv 110), (iv 32), (iv 102), (iv 105), (iv 101), (iv 108), (iv 100), (iv 32), (iv 39), (iv 0)] (.int 0) := q1928_4
  show Go _ _ _ _ (T1928.setTop (mkF m 16 #[.val .null] [(.ref b1909), (.ref b1907), (.ref b1907)]))
  refine aL X1928 hx (hb hby d_prog_8m6_16) (q := 17) rfl rfl rfl ?_
  have f1941 := f1936.keep K1928q (allS gz1914 (allS gz1934 all0))
  have f1942 := f1921.trans R1919
  have f1943 := f1942.trans (CHr.keep K1928q (sfS f1939 (sfS (safe_len hZ1919 f1933 (own_LN hw _ (by decide))) sf0)) f1942.1)
  have le1944 := K1928q.1
  refine g_viS X1928 hx hZ1919 hown1919 hS1919 (Nat.le_trans hk1919 le1944) (wd97 hw) (wd98 hw) (notFace_of_selects (args := #[]) (mvT hZ1919 (wd100 hw))) (wd100 hw) (wd99 hw) (by decide) q1928_0 rfl (ConS.back (W := 2) (rm_apoN l Z a0 hw hl zC SC PC hX b1909 vv_1913 kv_1913 [(iv 117), (iv 110), (iv 107), (iv 110), (iv 111), (iv 119), (iv 110), (iv 32), (iv 102), (iv 105), (iv 101), (iv 108), (iv 100), (iv 32), (iv 39), (iv 0)] T1928.heap f1941 q1928_0 q1928_1 q1928_2 q1928_3 eq1928_4 rfl gz1914 gz1934) hZ1919 (wd101 hw) (wd32 hw) (by decide) (by decide) (own_EW hw) f1943.1 sf0 all0) (by rw [hml]; rfl) (lenOf pd23 rfl) rfl (Nat.le_of_eq rfl) (hb hby d_prog_8m6_17) (q := 20) rfl (by decide) (by decide) ?_
  rintro v1940 T1940 L1940 ⟨X1940, hS1940, hZ1940, hown1940, R1940⟩ Q1940
  obtain ⟨c_1940, kc_1940, rfl, Nq1940, K1940q, q1940_0, q1940_1, q1940_2, q1940_3, q1940_4, q1940_5, q1940_6, q1940_7⟩ := Q1940
  have N1940 := Fr.app N1928 Nq1940
  have eq1940_4 : Arv Z T1940.heap c_1940 kc_1940 .byte (34 : Int32) [(iv 117), (iv 110), (iv 107), (iv 110), (iv 111), (iv 119), (iv 110), (iv 32), (iv 102), (iv 105), (iv 101), (iv 108), (iv 100), (iv 32), (iv 39), (iv 110), (iv 117), (iv 108), (iv 108), (iv 0), (iv 0), (iv 0), (iv 0), (iv 0), (iv 0), (iv 0), (iv 0), (iv 0), (iv 0), (iv 0), (iv 0), (iv 0), (iv 0), (iv 0)] (.int 0) := q1940_4
  show Go _ _ _ _ (T1940.setTop (mkF m 20 #[.val .null] [(.ref b1909), (.ref b1907), (.ref b1907)]))
  have f1946 := f1943.trans R1940
  refine g_ldc X1940 hx hZ1940 hown1940 (wd112 hw) (own_wS hw) hS1940 (Nat.le_trans (Nat.le_refl _) (Nat.le_refl _)) (own_EW hw) (by simp [EL]) f1946.1 (vs := [(iv 39)]) (z := (1 : Int32)) ⟨by decide, by decide⟩ (by decide) (by decide) (n := 4) (by decide) (by decide) (by decide) (by decide) rfl (hb hby d_prog_8m6_20) (q := 22) rfl ?_
  intro b1945 T1945 h1945 kk1945 d1945 k1945 X1945 e1945 E1945 hS1945 hk1945 hZ1945 hown1945 A1945 Fc1945 Fv1945 V1945 lta1945 ltb1945 R1945 sn1945
  have f1962 := q1940_0.ext E1945
  have f1963 := q1940_1.ext E1945
  have f1964 := q1940_2.ext E1945
  have f1965 := q1940_3.ext E1945
  have f1966 := eq1940_4.ext E1945
  have gz1967 : Z.heap.size ≤ c_1940 := Nat.le_trans f1941.2.1 q1940_6
  have f1968 := f1941.keep K1940q (allS gz1914 all0)
  have f1969 := f1968.ext E1945
  have f1970 := Safe.keep K1928q (sfS f1939 (sfS (safe_len hZ1919 f1933 (own_LN hw _ (by decide))) sf0)) f1942.1 f1939
  have le1971 := (Nat.le_trans le1938 E1919.1)
  have le1972 := (Nat.le_trans le1971 K1928q.1)
  have f1973 := R1940.safe (Nat.lt_of_lt_of_le A1909.lt le1972) f1970
  have le1974 := (Nat.le_trans le1972 K1940q.1)
  have f1975 := R1945.safe (Nat.lt_of_lt_of_le A1909.lt le1974) f1973
  refine g_vi X1945 hx hZ1945 hown1945 (wd49 hw) (wd50 hw) (notFace_of_selects (args := #[]) (mvT hZ1945 (wd52 hw))) (wd52 hw) (wd51 hw) (by decide) f1962 e1945 (Con.back (W := 2) (rm_sapH l Z a0 hw hl zC SC PC hX b1909 c_1940 kc_1940 [(iv 117), (iv 110), (iv 107), (iv 110), (iv 111), (iv 119), (iv 110), (iv 32), (iv 102), (iv 105), (iv 101), (iv 108), (iv 100), (iv 32), (iv 39), (iv 110), (iv 117), (iv 108), (iv 108), (iv 0), (iv 0), (iv 0), (iv 0), (iv 0), (iv 0), (iv 0), (iv 0), (iv 0), (iv 0), (iv 0), (iv 0), (iv 0), (iv 0), (iv 0)] b1945 d1945 k1945 [(iv 39)] (19 : Int32) h1945 f1969 f1962 f1963 f1964 f1965 f1966 rfl gz1914 gz1967 A1945 Fc1945 Fv1945 V1945 rfl (by decide)) hZ1945 (wd53 hw) (wd32 hw) (by decide) (by decide)) (by rw [hml]; rfl) (lenOf pd21 rfl) rfl (Nat.le_of_eq rfl) (hb hby d_prog_8m6_22) (q := 25) rfl (by decide) (by decide) ?_
  intro v1961 T1961 L1961 X1961 Q1961
  obtain ⟨rfl, Nq1961, K1961q, q1961_0, q1961_1, q1961_2, q1961_3, q1961_4, q1961_5⟩ := Q1961
  have N1961 := Fr.app N1940 Nq1961
  have eq1961_2 : Fld Z T1961.heap b1909 sT0 "count" "I" (iv 20) := by have := q1961_2; rwa [show ((19 : Int32) + (1 : Int32)) = (20 : Int32) from by decide] at this
  have eq1961_4 : Arv Z T1961.heap c_1940 kc_1940 .byte (34 : Int32) [(iv 117), (iv 110), (iv 107), (iv 110), (iv 111), (iv 119), (iv 110), (iv 32), (iv 102), (iv 105), (iv 101), (iv 108), (iv 100), (iv 32), (iv 39), (iv 110), (iv 117), (iv 108), (iv 108), (iv 39), (iv 0), (iv 0), (iv 0), (iv 0), (iv 0), (iv 0), (iv 0), (iv 0), (iv 0), (iv 0), (iv 0), (iv 0), (iv 0), (iv 0)] (.int 0) := q1961_4
  show Go _ _ _ _ (T1961.setTop (mkF m 25 #[.val .null] [(.ref b1909), (.ref b1907), (.ref b1907)]))
  have f1979 := q1940_7.ext E1945
  have f1980 := f1979.keep K1961q
  have f1981 := f1969.keep K1961q (allS gz1914 (allS gz1967 all0))
  refine g_vi X1961 hx hZ1945 hown1945 (wd113 hw) (wd114 hw) (notFace_of_selects (args := #[]) (mvT hZ1945 (wd116 hw))) (wd116 hw) (wd115 hw) (by decide) q1961_0 rfl (Con.back (W := 2) (rm_tosB l Z a0 hw hl zC SC PC hX b1909 c_1940 kc_1940 [(iv 117), (iv 110), (iv 107), (iv 110), (iv 111), (iv 119), (iv 110), (iv 32), (iv 102), (iv 105), (iv 101), (iv 108), (iv 100), (iv 32), (iv 39), (iv 110), (iv 117), (iv 108), (iv 108), (iv 39), (iv 0), (iv 0), (iv 0), (iv 0), (iv 0), (iv 0), (iv 0), (iv 0), (iv 0), (iv 0), (iv 0), (iv 0), (iv 0), (iv 0)] (20 : Int32) T1961.heap f1981 q1961_0 q1961_1 eq1961_2 q1961_3 eq1961_4 rfl f1980 (by decide)) hZ1945 (wd117 hw) (wd32 hw) (by decide) (by decide)) (by rw [hml]; rfl) (lenOf pd19 rfl) rfl (Nat.le_of_eq rfl) (hb hby d_prog_8m6_25) (q := 28) rfl (by decide) (by decide) ?_
  intro v1978 T1978 L1978 X1978 Q1978
  obtain ⟨r_1978, c_1978, kc_1978, rfl, Nq1978, K1978q, q1978_0, q1978_1, q1978_2, q1978_3, q1978_4, q1978_5⟩ := Q1978
  have N1978 := Fr.app N1961 Nq1978
  have eq1978_5 : Arv Z T1978.heap c_1978 kc_1978 .byte (20 : Int32) [(iv 117), (iv 110), (iv 107), (iv 110), (iv 111), (iv 119), (iv 110), (iv 32), (iv 102), (iv 105), (iv 101), (iv 108), (iv 100), (iv 32), (iv 39), (iv 110), (iv 117), (iv 108), (iv 108), (iv 39)] (.int 0) := q1978_5
  show Go _ _ _ _ (T1978.setTop (mkF m 28 #[.val .null] [(.ref r_1978), (.ref b1907), (.ref b1907)]))
  have f2069 := ThS.ext E1907 Th
  have f2070 := ThS.ext E1909 f2069
  have f2071 := ThS.keep K1913q (nsS (Exa.nostat A1909) ns0) f2070
  have f2072 := ThS.ext E1919 f2071
  have f2073 := q1913_6.ext E1919
  have f2074 := ThS.keep K1928q (nsS (Exa.nostat f1929) (nsS (Exa.nostat f2073) ns0)) f2072
  have f2075 := ThS.keep K1940q (nsS (Exa.nostat q1928_0) ns0) f2074
  have f2076 := ThS.ext E1945 f2075
  have f2077 := ThS.keep K1961q (nsS (Exa.nostat f1962) (nsS (Exa.nostat f1979) ns0)) f2076
  have f2078 := ThS.keep K1978q ns0 f2077
  have f2079 := A1907.ext E1909
  have f2080 := f2079.keep K1913q
  have f2081 := f2080.ext E1919
  have f2082 := f2081.keep K1928q
  have f2083 := f2082.keep K1940q
  have f2084 := f2083.ext E1945
  have f2085 := f2084.keep K1961q
  have f2086 := f2085.keep K1978q
  have f2087 := Unt.ext E1909 U1907
  have ne2088 : b1907 ≠ b1909 := (Nat.ne_of_lt (Nat.lt_of_lt_of_le (Nat.lt_of_lt_of_le A1907.lt (Nat.le_refl _)) (Nat.le_of_eq g1909.symm)))
  have f2089 := Unt.keep K1913q (ninS ne2088 nin0) f2087
  have f2090 := Unt.ext E1919 f2089
  have le2091 := E1909.1
  have ne2092 : b1907 ≠ vv_1913 := (Nat.ne_of_lt (Nat.lt_of_lt_of_le (Nat.lt_of_lt_of_le A1907.lt le2091) q1913_4))
  have f2093 := Unt.keep K1928q (ninS ne2088 (ninS ne2092 nin0)) f2090
  have f2094 := Unt.keep K1940q (ninS ne2088 nin0) f2093
  have f2095 := Unt.ext E1945 f2094
  have le2096 := (Nat.le_trans le2091 K1913q.1)
  have le2097 := (Nat.le_trans le2096 E1919.1)
  have le2098 := (Nat.le_trans le2097 K1928q.1)
  have ne2099 : b1907 ≠ c_1940 := (Nat.ne_of_lt (Nat.lt_of_lt_of_le (Nat.lt_of_lt_of_le A1907.lt le2098) q1940_6))
  have f2100 := Unt.keep K1961q (ninS ne2088 (ninS ne2099 nin0)) f2095
  have f2101 := Unt.keep K1978q nin0 f2100
  have gz2102 : Z.heap.size ≤ b1907 := Nat.le_trans O0.2.1 (Nat.le_of_eq g1907.symm)
  have f2103 := Safe.ext E1907 C0.1 sf1908
  have f2104 := Safe.ext E1909 f1917.1 f2103
  have f2105 := Safe.keep K1913q (sfS f1918 sf0) f1920.1 f2104
  have f2106 := R1919.safe (Nat.lt_of_lt_of_le A1907.lt le2096) f2105
  have f2107 := Safe.keep K1928q (sfS f1939 (sfS (safe_len hZ1919 f1933 (own_LN hw _ (by decide))) sf0)) f1942.1 f2106
  have f2108 := R1940.safe (Nat.lt_of_lt_of_le A1907.lt le2098) f2107
  have le2109 := (Nat.le_trans le2098 K1940q.1)
  have f2110 := R1945.safe (Nat.lt_of_lt_of_le A1907.lt le2109) f2108
  have f2111 := f1946.trans R1945
  have f2112 := Safe.keep K1961q (sfS f1975 (sfS (safe_len hZ1945 f1966 (own_LN hw _ (by decide))) sf0)) f2111.1 f2110
  have f2113 := f2111.trans (CHr.keep K1961q (sfS f1975 (sfS (safe_len hZ1945 f1966 (own_LN hw _ (by decide))) sf0)) f2111.1)
  have f2114 := Safe.keep K1978q sf0 f2113.1 f2112
  have f2115 := F1907_172.ext E1909
  have f2116 := f2115.keep K1913q (ninS ne2088 nin0)
  have f2117 := f2116.ext E1919
  have f2118 := f2117.keep K1928q (ninS ne2088 (ninS ne2092 nin0))
  have f2119 := f2118.keep K1940q (ninS ne2088 nin0)
  have f2120 := f2119.ext E1945
  have f2121 := f2120.keep K1961q (ninS ne2088 (ninS ne2099 nin0))
  have f2122 := f2121.keep K1978q nin0
  have f2123 := F1907_175.ext E1909
  have f2124 := f2123.keep K1913q (ninS ne2088 nin0)
  have f2125 := f2124.ext E1919
  have f2126 := f2125.keep K1928q (ninS ne2088 (ninS ne2092 nin0))
  have f2127 := f2126.keep K1940q (ninS ne2088 nin0)
  have f2128 := f2127.ext E1945
  have f2129 := f2128.keep K1961q (ninS ne2088 (ninS ne2099 nin0))
  have f2130 := f2129.keep K1978q nin0
  have f2131 := F1907_178.ext E1909
  have f2132 := f2131.keep K1913q (ninS ne2088 nin0)
  have f2133 := f2132.ext E1919
  have f2134 := f2133.keep K1928q (ninS ne2088 (ninS ne2092 nin0))
  have f2135 := f2134.keep K1940q (ninS ne2088 nin0)
  have f2136 := f2135.ext E1945
  have f2137 := f2136.keep K1961q (ninS ne2088 (ninS ne2099 nin0))
  have f2138 := f2137.keep K1978q nin0
  have f2139 := F1907_203.ext E1909
  have f2140 := f2139.keep K1913q (ninS ne2088 nin0)
  have f2141 := f2140.ext E1919
  have f2142 := f2141.keep K1928q (ninS ne2088 (ninS ne2092 nin0))
  have f2143 := f2142.keep K1940q (ninS ne2088 nin0)
  have f2144 := f2143.ext E1945
  have f2145 := f2144.keep K1961q (ninS ne2088 (ninS ne2099 nin0))
  have f2146 := f2145.keep K1978q nin0
  have f2147 := F1907_202.ext E1909
  have f2148 := f2147.keep K1913q (ninS ne2088 nin0)
  have f2149 := f2148.ext E1919
  have f2150 := f2149.keep K1928q (ninS ne2088 (ninS ne2092 nin0))
  have f2151 := f2150.keep K1940q (ninS ne2088 nin0)
  have f2152 := f2151.ext E1945
  have f2153 := f2152.keep K1961q (ninS ne2088 (ninS ne2099 nin0))
  have f2154 := f2153.keep K1978q nin0
  have f2155 := f1981.keep K1978q all0
  have f2156 := f2113.trans (CHr.keep K1978q sf0 f2113.1)
  have le2157 := (Nat.le_trans le2109 E1945.1)
  have le2158 := (Nat.le_trans le2157 K1961q.1)
  have le2159 := (Nat.le_trans le2158 K1978q.1)
  have le2160 := K1961q.1
  have le2161 := (Nat.le_trans le2160 K1978q.1)
  refine g_spS X1978 hx hZ1945 hown1945 hS1945 (Nat.le_trans hk1945 le2161) (wd156 hw) (wd157 hw) (wd158 hw) rfl (by decide) rfl (ConK.back (W := 1) (rm_thr2 l Z a0 hw hl zC SC PC hX b1907 r_1978 T1978.heap f2155 f2078 f2086 f2101 gz2102 f2122 f2130 f2138 f2146 f2154) hZ1945 (wd158 hw) (wd29 hw) (by decide) (by decide) (own_EW hw) f2156.1 (sfS f2114 sf0) (allS (Nat.lt_of_lt_of_le A1907.lt le2159) all0) (Vm.MethodsKnown.alikeC (hZ0.alike.symm.trans hZ1945.alike) hTK0) (Vm.FramesKnown.alikeC (hZ0.alike.symm.trans hZ1945.alike) hBF0)) (by rw [hml]; rfl) (lenOf pd3 rfl) rfl (Nat.le_of_eq rfl) (hb hby d_prog_8m6_28) (q := 31) rfl (by decide) (by decide) ?_
  rintro v2068 T2068 L2068 ⟨X2068, hS2068, hZ2068, hown2068, R2068⟩ Q2068
  obtain ⟨rfl, Nq2068, K2068q, q2068_0⟩ := Q2068
  have N2068 := Fr.app N1978 Nq2068
  show Go _ _ _ _ (T2068.setTop (mkF m 31 #[.val .null] [(.ref b1907)]))
  have K2162 : Keep h0 h1907 [] := (Keep.refl h0 []).ext E1907
  have K2163 : Keep h0 h1909 [] := K2162.ext E1909
  have le2165 := E1907.1
  have gh2164 : h0.size ≤ b1909 := Nat.le_trans le2165 (Nat.le_of_eq g1909.symm)
  have K2166 : Keep h0 T1913.heap [] := K2163.trans K1913q (allS (Or.inr gh2164) all0)
  have K2167 : Keep h0 h1919 [] := K2166.ext E1919
  have le2169 := (Nat.le_trans le2165 E1909.1)
  have gh2168 : h0.size ≤ vv_1913 := Nat.le_trans le2169 q1913_4
  have K2170 : Keep h0 T1928.heap [] := K2167.trans K1928q (allS (Or.inr gh2164) (allS (Or.inr gh2168) all0))
  have K2171 : Keep h0 T1940.heap [] := K2170.trans K1940q (allS (Or.inr gh2164) all0)
  have K2172 : Keep h0 h1945 [] := K2171.ext E1945
  have le2174 := (Nat.le_trans le2169 K1913q.1)
  have le2175 := (Nat.le_trans le2174 E1919.1)
  have le2176 := (Nat.le_trans le2175 K1928q.1)
  have gh2173 : h0.size ≤ c_1940 := Nat.le_trans le2176 q1940_6
  have K2177 : Keep h0 T1961.heap [] := K2172.trans K1961q (allS (Or.inr gh2164) (allS (Or.inr gh2173) all0))
  have K2178 : Keep h0 T1978.heap [] := K2177.trans K1978q all0
  have gh2179 : h0.size ≤ b1907 := Nat.le_trans (Nat.le_refl _) (Nat.le_of_eq g1907.symm)
  have K2180 : Keep h0 T2068.heap [] := K2178.trans K2068q (allS (Or.inr gh2179) all0)
  have f2181 := f2086.keep K2068q
  have f2182 := q1978_1.keep K2068q
  have ne2183 : r_1978 ≠ b1907 := (Nat.ne_of_gt (Nat.lt_of_lt_of_le (Nat.lt_of_lt_of_le A1907.lt le2158) q1978_0))
  have f2184 := q1978_2.keep K2068q (ninS ne2183 nin0)
  have f2185 := q1978_3.keep K2068q (ninS ne2183 nin0)
  have ne2186 : c_1978 ≠ b1907 := (Nat.ne_of_gt (Nat.lt_of_lt_of_le (Nat.lt_of_lt_of_le A1907.lt le2158) q1978_4))
  have f2187 := eq1978_5.keep K2068q (ninS ne2186 nin0)
  have f2188 := f2156.trans R2068
  refine endC X2068 hlk hS2068 (Nat.le_trans (Nat.le_refl _) (Nat.le_refl _)) hZ2068 (own_EW hw) f2188 (fun h => by rw [hret] at h; cases h) (lastA X2068 hx hret rfl rfl rfl (hb hby d_prog_8m6_31)) ?_ (by decide) (by decide)
  exact ⟨b1907, r_1978, c_1978, kc_1978, rfl, N2068, K2180, gh2179, f2181, q2068_0, f2182, f2184, f2185, f2187⟩
theorem own_c (x : Int32) : (x &&& 2147483647) % 5 = 0 ∨ (x &&& 2147483647) % 5 = 1 ∨ (x &&& 2147483647) % 5 = 2 ∨ (x &&& 2147483647) % 5 = 3 ∨ (x &&& 2147483647) % 5 = 4 := by
  have h := c_mask x 2147483647 31 (by decide) (by decide)
  have h2 := (c_irem (x &&& 2147483647) 5 5 (by decide)).1
  have h3 : (2 ^ 31 : Nat) = 2147483648 := by decide
  rw [h3] at h
  have h4 := h2 (by omega)
  have c0 : (0 : Int32).toInt = 0 := by decide
  have c1 : (1 : Int32).toInt = 1 := by decide
  have c2 : (2 : Int32).toInt = 2 := by decide
  have c3 : (3 : Int32).toInt = 3 := by decide
  have c4 : (4 : Int32).toInt = 4 := by decide
  simp only [← Int32.toInt_inj, c0, c1, c2, c3, c4]
  omega
theorem wd0 {a0 : Array Value} {Z : State} (hw : HW a0 Z) : ((Jvm.Cond.constant "com/example/usage_throttle/usagethrottle/io/PolicyFieldsUnknownFieldPinLaw" (7 : Nat) (2147483647 : Int32)) : Jvm.Cond).before a0 Z = true := hw _ (List.mem_of_getElem? (i := 0) rfl)
theorem wd1 {a0 : Array Value} {Z : State} (hw : HW a0 Z) : ((Jvm.Cond.classLink "com/example/usage_throttle/usagethrottle/io/PolicyFieldsUnknownFieldPinLaw" (8 : Nat) "java/lang/String") : Jvm.Cond).before a0 Z = true := hw _ (List.mem_of_getElem? (i := 1) rfl)
theorem wd4 {a0 : Array Value} {Z : State} (hw : HW a0 Z) : ((Jvm.Cond.arrayClass Jvm.ClassFile.FieldType.char) : Jvm.Cond).before a0 Z = true := hw _ (List.mem_of_getElem? (i := 4) rfl)
theorem wd7 {a0 : Array Value} {Z : State} (hw : HW a0 Z) : ((Jvm.Cond.code ({ cls := "java/lang/String", name := "<init>", desc := "([C)V" } : Jvm.MethodName) jdk_42_method_3_code (2 : Nat) (Option.none : Option Jvm.ClassFile.FieldType)) : Jvm.Cond).before a0 Z = true := hw _ (List.mem_of_getElem? (i := 7) rfl)
theorem pd24 : parseMethodDescriptor "([C)V" = some ⟨[(.array .char)], none⟩ := by decide +kernel
theorem wd5 {a0 : Array Value} {Z : State} (hw : HW a0 Z) : ((Jvm.Cond.methodLink "com/example/usage_throttle/usagethrottle/io/PolicyFieldsUnknownFieldPinLaw" (10 : Nat) ({ cls := "java/lang/String", name := "<init>", desc := "([C)V" } : Jvm.MethodName)) : Jvm.Cond).before a0 Z = true := hw _ (List.mem_of_getElem? (i := 5) rfl)
theorem wd6 {a0 : Array Value} {Z : State} (hw : HW a0 Z) : ((Jvm.Cond.instanceMethod ({ cls := "java/lang/String", name := "<init>", desc := "([C)V" } : Jvm.MethodName)) : Jvm.Cond).before a0 Z = true := hw _ (List.mem_of_getElem? (i := 6) rfl)
theorem wd26 {a0 : Array Value} {Z : State} (hw : HW a0 Z) : ((Jvm.Cond.code ({ cls := "com/example/usage_throttle/usagethrottle/io/PolicyFields", name := "unknownField", desc := "(Ljava/lang/Object;)Lcom/example/usage_throttle/usagethrottle/io/InvalidPolicyException;" } : Jvm.MethodName) prog_8_method_6_code (1 : Nat) (Option.some (Jvm.ClassFile.FieldType.object "com/example/usage_throttle/usagethrottle/io/InvalidPolicyException"))) : Jvm.Cond).before a0 Z = true := hw _ (List.mem_of_getElem? (i := 26) rfl)
theorem wd25 {a0 : Array Value} {Z : State} (hw : HW a0 Z) : ((Jvm.Cond.initialized "com/example/usage_throttle/usagethrottle/io/PolicyFields") : Jvm.Cond).before a0 Z = true := hw _ (List.mem_of_getElem? (i := 25) rfl)
theorem pd25 : parseMethodDescriptor "(Ljava/lang/Object;)Lcom/example/usage_throttle/usagethrottle/io/InvalidPolicyException;" = some ⟨[(.object "java/lang/Object")], some (.object "com/example/usage_throttle/usagethrottle/io/InvalidPolicyException")⟩ := by decide +kernel
theorem wd23 {a0 : Array Value} {Z : State} (hw : HW a0 Z) : ((Jvm.Cond.methodLink "com/example/usage_throttle/usagethrottle/io/PolicyFieldsUnknownFieldPinLaw" (13 : Nat) ({ cls := "com/example/usage_throttle/usagethrottle/io/PolicyFields", name := "unknownField", desc := "(Ljava/lang/Object;)Lcom/example/usage_throttle/usagethrottle/io/InvalidPolicyException;" } : Jvm.MethodName)) : Jvm.Cond).before a0 Z = true := hw _ (List.mem_of_getElem? (i := 23) rfl)
theorem wd24 {a0 : Array Value} {Z : State} (hw : HW a0 Z) : ((Jvm.Cond.static ({ cls := "com/example/usage_throttle/usagethrottle/io/PolicyFields", name := "unknownField", desc := "(Ljava/lang/Object;)Lcom/example/usage_throttle/usagethrottle/io/InvalidPolicyException;" } : Jvm.MethodName)) : Jvm.Cond).before a0 Z = true := hw _ (List.mem_of_getElem? (i := 24) rfl)
theorem wd212 {a0 : Array Value} {Z : State} (hw : HW a0 Z) : ((Jvm.Cond.code ({ cls := "java/lang/Throwable", name := "getMessage", desc := "()Ljava/lang/String;" } : Jvm.MethodName) jdk_78_method_6_code (1 : Nat) (Option.some (Jvm.ClassFile.FieldType.object "java/lang/String"))) : Jvm.Cond).before a0 Z = true := hw _ (List.mem_of_getElem? (i := 212) rfl)
theorem wd211 {a0 : Array Value} {Z : State} (hw : HW a0 Z) : ((Jvm.Cond.selects "com/example/usage_throttle/usagethrottle/io/InvalidPolicyException" ({ cls := "com/example/usage_throttle/usagethrottle/io/InvalidPolicyException", name := "getMessage", desc := "()Ljava/lang/String;" } : Jvm.MethodName) ({ cls := "java/lang/Throwable", name := "getMessage", desc := "()Ljava/lang/String;" } : Jvm.MethodName)) : Jvm.Cond).before a0 Z = true := hw _ (List.mem_of_getElem? (i := 211) rfl)
theorem wd207 {a0 : Array Value} {Z : State} (hw : HW a0 Z) : ((Jvm.Cond.methodLink "com/example/usage_throttle/usagethrottle/io/PolicyFieldsUnknownFieldPinLaw" (19 : Nat) ({ cls := "com/example/usage_throttle/usagethrottle/io/InvalidPolicyException", name := "getMessage", desc := "()Ljava/lang/String;" } : Jvm.MethodName)) : Jvm.Cond).before a0 Z = true := hw _ (List.mem_of_getElem? (i := 207) rfl)
theorem wd208 {a0 : Array Value} {Z : State} (hw : HW a0 Z) : ((Jvm.Cond.sameMethod "com/example/usage_throttle/usagethrottle/io/InvalidPolicyException" "java/lang/Throwable" "getMessage" "()Ljava/lang/String;") : Jvm.Cond).before a0 Z = true := hw _ (List.mem_of_getElem? (i := 208) rfl)
theorem wd209 {a0 : Array Value} {Z : State} (hw : HW a0 Z) : ((Jvm.Cond.declares ({ cls := "java/lang/Throwable", name := "getMessage", desc := "()Ljava/lang/String;" } : Jvm.MethodName)) : Jvm.Cond).before a0 Z = true := hw _ (List.mem_of_getElem? (i := 209) rfl)
theorem wd210 {a0 : Array Value} {Z : State} (hw : HW a0 Z) : ((Jvm.Cond.instanceMethod ({ cls := "java/lang/Throwable", name := "getMessage", desc := "()Ljava/lang/String;" } : Jvm.MethodName)) : Jvm.Cond).before a0 Z = true := hw _ (List.mem_of_getElem? (i := 210) rfl)
theorem wd227 {a0 : Array Value} {Z : State} (hw : HW a0 Z) : ((Jvm.Cond.code ({ cls := "java/lang/String", name := "equals", desc := "(Ljava/lang/Object;)Z" } : Jvm.MethodName) jdk_42_method_66_code (3 : Nat) (Option.some Jvm.ClassFile.FieldType.boolean)) : Jvm.Cond).before a0 Z = true := hw _ (List.mem_of_getElem? (i := 227) rfl)
theorem pd26 : parseMethodDescriptor "(Ljava/lang/Object;)Z" = some ⟨[(.object "java/lang/Object")], some .boolean⟩ := by decide +kernel
theorem wd226 {a0 : Array Value} {Z : State} (hw : HW a0 Z) : ((Jvm.Cond.selects "java/lang/String" ({ cls := "java/lang/String", name := "equals", desc := "(Ljava/lang/Object;)Z" } : Jvm.MethodName) ({ cls := "java/lang/String", name := "equals", desc := "(Ljava/lang/Object;)Z" } : Jvm.MethodName)) : Jvm.Cond).before a0 Z = true := hw _ (List.mem_of_getElem? (i := 226) rfl)
theorem wd223 {a0 : Array Value} {Z : State} (hw : HW a0 Z) : ((Jvm.Cond.methodLink "com/example/usage_throttle/usagethrottle/io/PolicyFieldsUnknownFieldPinLaw" (25 : Nat) ({ cls := "java/lang/String", name := "equals", desc := "(Ljava/lang/Object;)Z" } : Jvm.MethodName)) : Jvm.Cond).before a0 Z = true := hw _ (List.mem_of_getElem? (i := 223) rfl)
theorem wd224 {a0 : Array Value} {Z : State} (hw : HW a0 Z) : ((Jvm.Cond.declares ({ cls := "java/lang/String", name := "equals", desc := "(Ljava/lang/Object;)Z" } : Jvm.MethodName)) : Jvm.Cond).before a0 Z = true := hw _ (List.mem_of_getElem? (i := 224) rfl)
theorem wd225 {a0 : Array Value} {Z : State} (hw : HW a0 Z) : ((Jvm.Cond.instanceMethod ({ cls := "java/lang/String", name := "equals", desc := "(Ljava/lang/Object;)Z" } : Jvm.MethodName)) : Jvm.Cond).before a0 Z = true := hw _ (List.mem_of_getElem? (i := 225) rfl)
def Q_law (Z : State) (zC : Int32) (p0 : Int32) (p1 : Int32) (p2 : Int32) (p3 : Int32) (h0 : Heap) (v : Option Value) (h : Heap) (L : List Loc) : Prop := v = some (iv 1) ∧ Fr Z.heap.size L ∧ True
theorem pn12 : plainName "com/example/usage_throttle/usagethrottle/io/PolicyFieldsUnknownFieldPinLaw" = true := by first | (simp [plainName, overriddenIn]; done) | decide +kernel
theorem rm_law (l : Launch) (Z : State) (a0 : Array Value) (hw : HW a0 Z) (hl : l.stackTraces = true) (zC : Int32) (SC : tSC Z zC) (PC : ¬ zC = (0 : Int32)) (hX : ExW a0 Z) (p0 : Int32) (p1 : Int32) (p2 : Int32) (p3 : Int32) (h0 : Heap) (O0 : Old Z Z.heap.size h0) (Th : ThS Z h0) :
    ConK l Z EL (⟨"com/example/usage_throttle/usagethrottle/io/PolicyFieldsUnknownFieldPinLaw", "law", "(IIII)Z"⟩ : MethodName) code 12 (some .boolean) room_1 #[(.int p0), (.int p1), (.int p2), (.int p3)] h0 [] (Q_law Z zC p0 p1 p2 p3 h0) := by
  refine ConK.intro (plainFor_of_name pn12) ?_
  intro p e s m below meth c T0 v0 X0 hx hby hml hown0 hnm hret hlk hZ0 e0 hS0 C0 hsl0 hs0 hTK0 hBF0
  have hTh0 : ThS Z s.heap := hs0 ▸ Th
  have N0 := Fr.nil Z.heap.size
  refine castGo (g' := mkF m 0 #[.val (.int p0), .val (.int p1), .val (.int p2), .val (.int p3), .unset, .unset, .unset, .unset, .unset, .unset, .unset, .unset] []) (by first | rfl | (simp [entryFrame, mkF, argsToLocals, Value.category]; done)) ?_
  show Go _ _ _ _ (T0.setTop (mkF m 0 #[.val (.int p0), .val (.int p1), .val (.int p2), .val (.int p3), .unset, .unset, .unset, .unset, .unset, .unset, .unset, .unset] []))
  refine iL X0 hx (hb hby at_0) (q := 1) rfl rfl ?_
  refine g_ldcI X0 hx (a1 := #[]) hZ0 hown0 (wd0 hw) (hb hby at_1) (q := 3) rfl ?_
  refine g_iand X0 hx (hb hby at_3) (q := 4) rfl rfl ?_
  refine cI X0 hx (hb hby at_4) (q := 5) rfl (z := (5 : Int32)) rfl ?_
  refine g_irem X0 hx (hb hby at_5) (q := 6) rfl (by decide) rfl ?_
  rcases (own_c _ : ((p0 &&& (2147483647 : Int32)) % (5 : Int32)) = (0 : Int32) ∨ ((p0 &&& (2147483647 : Int32)) % (5 : Int32)) = (1 : Int32) ∨ ((p0 &&& (2147483647 : Int32)) % (5 : Int32)) = (2 : Int32) ∨ ((p0 &&& (2147483647 : Int32)) % (5 : Int32)) = (3 : Int32) ∨ ((p0 &&& (2147483647 : Int32)) % (5 : Int32)) = (4 : Int32)) with hk2189 | hk2190 | hk2191 | hk2192 | hk2193
  · rw [hk2189]
    show Go _ _ _ _ (T0.setTop (mkF m 6 #[.val (.int p0), .val (.int p1), .val (.int p2), .val (.int p3), .unset, .unset, .unset, .unset, .unset, .unset, .unset, .unset] [(iv 0)]))
    refine sIw X0 hx (hb hby at_6) (q := 8) rfl (Ls' := #[.val (.int p0), .val (.int p1), .val (.int p2), .val (.int p3), .val (iv 0), .unset, .unset, .unset, .unset, .unset, .unset, .unset]) rfl ?_
    refine iL X0 hx (hb hby at_8) (q := 9) rfl rfl ?_
    refine pI X0 hx (hb hby at_9) (q := 12) rfl (z := (255 : Int32)) rfl ?_
    refine g_iand X0 hx (hb hby at_12) (q := 13) rfl rfl ?_
    refine g_i2c X0 hx (hb hby at_13) (q := 14) rfl (z := (chr p1)) rfl ?_
    refine sIw X0 hx (hb hby at_14) (q := 16) rfl (Ls' := #[.val (.int p0), .val (.int p1), .val (.int p2), .val (.int p3), .val (iv 0), .val (.int (chr p1)), .unset, .unset, .unset, .unset, .unset, .unset]) rfl ?_
    refine iL X0 hx (hb hby at_16) (q := 17) rfl rfl ?_
    refine pI X0 hx (hb hby at_17) (q := 20) rfl (z := (255 : Int32)) rfl ?_
    refine g_iand X0 hx (hb hby at_20) (q := 21) rfl rfl ?_
    refine g_i2c X0 hx (hb hby at_21) (q := 22) rfl (z := (chr p2)) rfl ?_
    refine sIw X0 hx (hb hby at_22) (q := 24) rfl (Ls' := #[.val (.int p0), .val (.int p1), .val (.int p2), .val (.int p3), .val (iv 0), .val (.int (chr p1)), .val (.int (chr p2)), .unset, .unset, .unset, .unset, .unset]) rfl ?_
    refine iL X0 hx (hb hby at_24) (q := 25) rfl rfl ?_
    refine pI X0 hx (hb hby at_25) (q := 28) rfl (z := (255 : Int32)) rfl ?_
    refine g_iand X0 hx (hb hby at_28) (q := 29) rfl rfl ?_
    refine g_i2c X0 hx (hb hby at_29) (q := 30) rfl (z := (chr p3)) rfl ?_
    refine sIw X0 hx (hb hby at_30) (q := 32) rfl (Ls' := #[.val (.int p0), .val (.int p1), .val (.int p2), .val (.int p3), .val (iv 0), .val (.int (chr p1)), .val (.int (chr p2)), .val (.int (chr p3)), .unset, .unset, .unset, .unset]) rfl ?_
    refine iLw X0 hx (hb hby at_32) (q := 34) rfl rfl ?_
    refine ifN X0 hx (hb hby at_34) (q := 37) rfl (by decide) ?_
    refine g_new X0 hx hZ0 hown0 (wd1 hw) (wd2 hw) (wd3 hw) (by decide) (by decide) e0 (hb hby at_37) (q := 40) rfl ?_
    intro T2194 h2194 b2194 g2194 X2194 e2194 E2194 A2194 D2194
    have sf2195 : Safe Z EL v0 h0 b2194 := Safe.new (Nat.le_of_eq g2194.symm)
    have F2194_17 := D2194 (Or.inr (wd17 hw)) (ty := (.array .byte)) (by decide)
    have F2194_18 := D2194 (Or.inr (wd18 hw)) (ty := .byte) (by decide)
    refine g_dup X2194 hx (hb hby at_40) (q := 41) rfl rfl ?_
    refine cI X2194 hx (hb hby at_41) (q := 42) rfl (z := (0 : Int32)) rfl ?_
    refine g_newA X2194 hx hZ0 (aty := .char) (wd4 hw) (by decide) (n := 0) (by decide) (by decide) (by decide) (by decide) e2194 (hb hby at_42) (q := 44) rfl ?_
    intro T2196 h2196 k2196 b2196 g2196 X2196 e2196 E2196 V2196
    have Va2196 : Arv Z h2196 b2196 k2196 .char (0 : Int32) [] (.int 0) := V2196
    have f2205 := A2194.ext E2196
    have f2206 := F2194_17.ext E2196
    have f2207 := F2194_18.ext E2196
    have gz2208 : Z.heap.size ≤ b2194 := Nat.le_trans O0.2.1 (Nat.le_of_eq g2194.symm)
    have f2209 := Safe.ext E2194 C0.1 sf2195
    have f2210 := C0.trans (CHr.ext E2194 C0.1)
    have f2211 := Safe.ext E2196 f2210.1 f2209
    have f2212 := O0.ext E2194
    have f2213 := f2212.ext E2196
    have f2214 := f2210.trans (CHr.ext E2196 f2210.1)
    have le2215 := E2196.1
    refine g_spS X2196 hx hZ0 hown0 hS0 (Nat.zero_le _) (wd5 hw) (wd6 hw) (wd7 hw) rfl (by decide) e2196 (ConS.back (W := 1) (rm_new1e l Z a0 hw hl zC SC PC hX b2194 b2196 k2196 [] h2196 f2213 f2205 f2206 f2207 gz2208 Va2196) hZ0 (wd7 hw) (wd3 hw) (by decide) (by decide) (own_EW hw) f2214.1 (sfS f2211 sf0) (allS (Nat.lt_of_lt_of_le A2194.lt le2215) all0)) (by rw [hml]; rfl) (lenOf pd24 rfl) rfl (Nat.le_of_eq rfl) (hb hby at_44) (q := 47) rfl (by decide) (by decide) ?_
    rintro v2204 T2204 L2204 ⟨X2204, hS2204, hZ2204, hown2204, R2204⟩ Q2204
    obtain ⟨t_2204, kb_2204, rfl, Nq2204, K2204q, q2204_0, q2204_1, q2204_2, q2204_3⟩ := Q2204
    have N2204 := Fr.app N0 Nq2204
    show Go _ _ _ _ (T2204.setTop (mkF m 47 #[.val (.int p0), .val (.int p1), .val (.int p2), .val (.int p3), .val (iv 0), .val (.int (chr p1)), .val (.int (chr p2)), .val (.int (chr p3)), .unset, .unset, .unset, .unset] [(.ref b2194)]))
    refine sAw X2204 hx (hb hby at_47) (q := 49) rfl rfl (Ls' := #[.val (.int p0), .val (.int p1), .val (.int p2), .val (.int p3), .val (iv 0), .val (.int (chr p1)), .val (.int (chr p2)), .val (.int (chr p3)), .val (.ref b2194), .unset, .unset, .unset]) rfl ?_
    refine bI X2204 hx (hb hby at_49) (q := 51) rfl (z := (16 : Int32)) rfl ?_
    refine g_newA X2204 hx hZ2204 (aty := .char) (wd4 hw) (by decide) (n := 16) (by decide) (by decide) (by decide) (by decide) rfl (hb hby at_51) (q := 53) rfl ?_
    intro T2216 h2216 k2216 b2216 g2216 X2216 e2216 E2216 V2216
    have Va2216 : Arv Z h2216 b2216 k2216 .char (16 : Int32) [(iv 0), (iv 0), (iv 0), (iv 0), (iv 0), (iv 0), (iv 0), (iv 0), (iv 0), (iv 0), (iv 0), (iv 0), (iv 0), (iv 0), (iv 0), (iv 0)] (.int 0) := V2216
    refine g_dup X2216 hx (hb hby at_53) (q := 54) rfl rfl ?_
    refine cI X2216 hx (hb hby at_54) (q := 55) rfl (z := (0 : Int32)) rfl ?_
    refine bI X2216 hx (hb hby at_55) (q := 57) rfl (z := (117 : Int32)) rfl ?_
    have f2219 := f2213.keep K2204q (allS gz2208 all0)
    have gz2218 : Z.heap.size ≤ b2216 := Nat.le_trans f2219.2.1 (Nat.le_of_eq g2216.symm)
    have f2220 := f2214.trans R2204
    have f2221 := f2220.trans (CHr.ext E2216 f2220.1)
    refine g_stC X2216 hx hZ2204 Va2216 (i := 0) (by decide) (by decide) (by decide) (Nat.le_of_ble_eq_true rfl) (y := (117 : Int32)) (by decide) e2216 (hb hby at_57) (q := 58) rfl ?_
    intro T2217 h2217 X2217 e2217 W2217 V2217
    have N2217 := Fr.snoc X2217 N2204 gz2218
    have Va2217 : Arv Z h2217 b2216 k2216 .char (16 : Int32) [(iv 117), (iv 0), (iv 0), (iv 0), (iv 0), (iv 0), (iv 0), (iv 0), (iv 0), (iv 0), (iv 0), (iv 0), (iv 0), (iv 0), (iv 0), (iv 0)] (.int 0) := V2217
    refine g_dup X2217 hx (hb hby at_58) (q := 59) rfl rfl ?_
    refine cI X2217 hx (hb hby at_59) (q := 60) rfl (z := (1 : Int32)) rfl ?_
    refine bI X2217 hx (hb hby at_60) (q := 62) rfl (z := (110 : Int32)) rfl ?_
    have f2223 := f2221.trans (CHr.wr W2217 (Safe.arv hZ2204.alike Va2216 (by decide)) f2221.1)
    refine g_stC X2217 hx hZ2204 Va2217 (i := 1) (by decide) (by decide) (by decide) (Nat.le_of_ble_eq_true rfl) (y := (110 : Int32)) (by decide) e2217 (hb hby at_62) (q := 63) rfl ?_
    intro T2222 h2222 X2222 e2222 W2222 V2222
    have N2222 := Fr.snoc X2222 N2217 gz2218
    have Va2222 : Arv Z h2222 b2216 k2216 .char (16 : Int32) [(iv 117), (iv 110), (iv 0), (iv 0), (iv 0), (iv 0), (iv 0), (iv 0), (iv 0), (iv 0), (iv 0), (iv 0), (iv 0), (iv 0), (iv 0), (iv 0)] (.int 0) := V2222
    refine g_dup X2222 hx (hb hby at_63) (q := 64) rfl rfl ?_
    refine cI X2222 hx (hb hby at_64) (q := 65) rfl (z := (2 : Int32)) rfl ?_
    refine bI X2222 hx (hb hby at_65) (q := 67) rfl (z := (107 : Int32)) rfl ?_
    have f2225 := f2223.trans (CHr.wr W2222 (Safe.arv hZ2204.alike Va2217 (by decide)) f2223.1)
    refine g_stC X2222 hx hZ2204 Va2222 (i := 2) (by decide) (by decide) (by decide) (Nat.le_of_ble_eq_true rfl) (y := (107 : Int32)) (by decide) e2222 (hb hby at_67) (q := 68) rfl ?_
    intro T2224 h2224 X2224 e2224 W2224 V2224
    have N2224 := Fr.snoc X2224 N2222 gz2218
    have Va2224 : Arv Z h2224 b2216 k2216 .char (16 : Int32) [(iv 117), (iv 110), (iv 107), (iv 0), (iv 0), (iv 0), (iv 0), (iv 0), (iv 0), (iv 0), (iv 0), (iv 0), (iv 0), (iv 0), (iv 0), (iv 0)] (.int 0) := V2224
    refine g_dup X2224 hx (hb hby at_68) (q := 69) rfl rfl ?_
    refine cI X2224 hx (hb hby at_69) (q := 70) rfl (z := (3 : Int32)) rfl ?_
    refine bI X2224 hx (hb hby at_70) (q := 72) rfl (z := (110 : Int32)) rfl ?_
    have f2227 := f2225.trans (CHr.wr W2224 (Safe.arv hZ2204.alike Va2222 (by decide)) f2225.1)
    refine g_stC X2224 hx hZ2204 Va2224 (i := 3) (by decide) (by decide) (by decide) (Nat.le_of_ble_eq_true rfl) (y := (110 : Int32)) (by decide) e2224 (hb hby at_72) (q := 73) rfl ?_
    intro T2226 h2226 X2226 e2226 W2226 V2226
    have N2226 := Fr.snoc X2226 N2224 gz2218
    have Va2226 : Arv Z h2226 b2216 k2216 .char (16 : Int32) [(iv 117), (iv 110), (iv 107), (iv 110), (iv 0), (iv 0), (iv 0), (iv 0), (iv 0), (iv 0), (iv 0), (iv 0), (iv 0), (iv 0), (iv 0), (iv 0)] (.int 0) := V2226
    refine g_dup X2226 hx (hb hby at_73) (q := 74) rfl rfl ?_
    refine cI X2226 hx (hb hby at_74) (q := 75) rfl (z := (4 : Int32)) rfl ?_
    refine bI X2226 hx (hb hby at_75) (q := 77) rfl (z := (111 : Int32)) rfl ?_
    have f2229 := f2227.trans (CHr.wr W2226 (Safe.arv hZ2204.alike Va2224 (by decide)) f2227.1)
    refine g_stC X2226 hx hZ2204 Va2226 (i := 4) (by decide) (by decide) (by decide) (Nat.le_of_ble_eq_true rfl) (y := (111 : Int32)) (by decide) e2226 (hb hby at_77) (q := 78) rfl ?_
    intro T2228 h2228 X2228 e2228 W2228 V2228
    have N2228 := Fr.snoc X2228 N2226 gz2218
    have Va2228 : Arv Z h2228 b2216 k2216 .char (16 : Int32) [(iv 117), (iv 110), (iv 107), (iv 110), (iv 111), (iv 0), (iv 0), (iv 0), (iv 0), (iv 0), (iv 0), (iv 0), (iv 0), (iv 0), (iv 0), (iv 0)] (.int 0) := V2228
    refine g_dup X2228 hx (hb hby at_78) (q := 79) rfl rfl ?_
    refine cI X2228 hx (hb hby at_79) (q := 80) rfl (z := (5 : Int32)) rfl ?_
    refine bI X2228 hx (hb hby at_80) (q := 82) rfl (z := (119 : Int32)) rfl ?_
    have f2231 := f2229.trans (CHr.wr W2228 (Safe.arv hZ2204.alike Va2226 (by decide)) f2229.1)
    refine g_stC X2228 hx hZ2204 Va2228 (i := 5) (by decide) (by decide) (by decide) (Nat.le_of_ble_eq_true rfl) (y := (119 : Int32)) (by decide) e2228 (hb hby at_82) (q := 83) rfl ?_
    intro T2230 h2230 X2230 e2230 W2230 V2230
    have N2230 := Fr.snoc X2230 N2228 gz2218
    have Va2230 : Arv Z h2230 b2216 k2216 .char (16 : Int32) [(iv 117), (iv 110), (iv 107), (iv 110), (iv 111), (iv 119), (iv 0), (iv 0), (iv 0), (iv 0), (iv 0), (iv 0), (iv 0), (iv 0), (iv 0), (iv 0)] (.int 0) := V2230
    refine g_dup X2230 hx (hb hby at_83) (q := 84) rfl rfl ?_
    refine bI X2230 hx (hb hby at_84) (q := 86) rfl (z := (6 : Int32)) rfl ?_
    refine bI X2230 hx (hb hby at_86) (q := 88) rfl (z := (110 : Int32)) rfl ?_
    have f2233 := f2231.trans (CHr.wr W2230 (Safe.arv hZ2204.alike Va2228 (by decide)) f2231.1)
    refine g_stC X2230 hx hZ2204 Va2230 (i := 6) (by decide) (by decide) (by decide) (Nat.le_of_ble_eq_true rfl) (y := (110 : Int32)) (by decide) e2230 (hb hby at_88) (q := 89) rfl ?_
    intro T2232 h2232 X2232 e2232 W2232 V2232
    have N2232 := Fr.snoc X2232 N2230 gz2218
    have Va2232 : Arv Z h2232 b2216 k2216 .char (16 : Int32) [(iv 117), (iv 110), (iv 107), (iv 110), (iv 111), (iv 119), (iv 110), (iv 0), (iv 0), (iv 0), (iv 0), (iv 0), (iv 0), (iv 0), (iv 0), (iv 0)] (.int 0) := V2232
    refine g_dup X2232 hx (hb hby at_89) (q := 90) rfl rfl ?_
    refine bI X2232 hx (hb hby at_90) (q := 92) rfl (z := (7 : Int32)) rfl ?_
    refine bI X2232 hx (hb hby at_92) (q := 94) rfl (z := (32 : Int32)) rfl ?_
    have f2235 := f2233.trans (CHr.wr W2232 (Safe.arv hZ2204.alike Va2230 (by decide)) f2233.1)
    refine g_stC X2232 hx hZ2204 Va2232 (i := 7) (by decide) (by decide) (by decide) (Nat.le_of_ble_eq_true rfl) (y := (32 : Int32)) (by decide) e2232 (hb hby at_94) (q := 95) rfl ?_
    intro T2234 h2234 X2234 e2234 W2234 V2234
    have N2234 := Fr.snoc X2234 N2232 gz2218
    have Va2234 : Arv Z h2234 b2216 k2216 .char (16 : Int32) [(iv 117), (iv 110), (iv 107), (iv 110), (iv 111), (iv 119), (iv 110), (iv 32), (iv 0), (iv 0), (iv 0), (iv 0), (iv 0), (iv 0), (iv 0), (iv 0)] (.int 0) := V2234
    refine g_dup X2234 hx (hb hby at_95) (q := 96) rfl rfl ?_
    refine bI X2234 hx (hb hby at_96) (q := 98) rfl (z := (8 : Int32)) rfl ?_
    refine bI X2234 hx (hb hby at_98) (q := 100) rfl (z := (102 : Int32)) rfl ?_
    have f2237 := f2235.trans (CHr.wr W2234 (Safe.arv hZ2204.alike Va2232 (by decide)) f2235.1)
    refine g_stC X2234 hx hZ2204 Va2234 (i := 8) (by decide) (by decide) (by decide) (Nat.le_of_ble_eq_true rfl) (y := (102 : Int32)) (by decide) e2234 (hb hby at_100) (q := 101) rfl ?_
    intro T2236 h2236 X2236 e2236 W2236 V2236
    have N2236 := Fr.snoc X2236 N2234 gz2218
    have Va2236 : Arv Z h2236 b2216 k2216 .char (16 : Int32) [(iv 117), (iv 110), (iv 107), (iv 110), (iv 111), (iv 119), (iv 110), (iv 32), (iv 102), (iv 0), (iv 0), (iv 0), (iv 0), (iv 0), (iv 0), (iv 0)] (.int 0) := V2236
    refine g_dup X2236 hx (hb hby at_101) (q := 102) rfl rfl ?_
    refine bI X2236 hx (hb hby at_102) (q := 104) rfl (z := (9 : Int32)) rfl ?_
    refine bI X2236 hx (hb hby at_104) (q := 106) rfl (z := (105 : Int32)) rfl ?_
    have f2239 := f2237.trans (CHr.wr W2236 (Safe.arv hZ2204.alike Va2234 (by decide)) f2237.1)
    refine g_stC X2236 hx hZ2204 Va2236 (i := 9) (by decide) (by decide) (by decide) (Nat.le_of_ble_eq_true rfl) (y := (105 : Int32)) (by decide) e2236 (hb hby at_106) (q := 107) rfl ?_
    intro T2238 h2238 X2238 e2238 W2238 V2238
    have N2238 := Fr.snoc X2238 N2236 gz2218
    have Va2238 : Arv Z h2238 b2216 k2216 .char (16 : Int32) [(iv 117), (iv 110), (iv 107), (iv 110), (iv 111), (iv 119), (iv 110), (iv 32), (iv 102), (iv 105), (iv 0), (iv 0), (iv 0), (iv 0), (iv 0), (iv 0)] (.int 0) := V2238
    refine g_dup X2238 hx (hb hby at_107) (q := 108) rfl rfl ?_
    refine bI X2238 hx (hb hby at_108) (q := 110) rfl (z := (10 : Int32)) rfl ?_
    refine bI X2238 hx (hb hby at_110) (q := 112) rfl (z := (101 : Int32)) rfl ?_
    have f2241 := f2239.trans (CHr.wr W2238 (Safe.arv hZ2204.alike Va2236 (by decide)) f2239.1)
    refine g_stC X2238 hx hZ2204 Va2238 (i := 10) (by decide) (by decide) (by decide) (Nat.le_of_ble_eq_true rfl) (y := (101 : Int32)) (by decide) e2238 (hb hby at_112) (q := 113) rfl ?_
    intro T2240 h2240 X2240 e2240 W2240 V2240
    have N2240 := Fr.snoc X2240 N2238 gz2218
    have Va2240 : Arv Z h2240 b2216 k2216 .char (16 : Int32) [(iv 117), (iv 110), (iv 107), (iv 110), (iv 111), (iv 119), (iv 110), (iv 32), (iv 102), (iv 105), (iv 101), (iv 0), (iv 0), (iv 0), (iv 0), (iv 0)] (.int 0) := V2240
    refine g_dup X2240 hx (hb hby at_113) (q := 114) rfl rfl ?_
    refine bI X2240 hx (hb hby at_114) (q := 116) rfl (z := (11 : Int32)) rfl ?_
    refine bI X2240 hx (hb hby at_116) (q := 118) rfl (z := (108 : Int32)) rfl ?_
    have f2243 := f2241.trans (CHr.wr W2240 (Safe.arv hZ2204.alike Va2238 (by decide)) f2241.1)
    refine g_stC X2240 hx hZ2204 Va2240 (i := 11) (by decide) (by decide) (by decide) (Nat.le_of_ble_eq_true rfl) (y := (108 : Int32)) (by decide) e2240 (hb hby at_118) (q := 119) rfl ?_
    intro T2242 h2242 X2242 e2242 W2242 V2242
    have N2242 := Fr.snoc X2242 N2240 gz2218
    have Va2242 : Arv Z h2242 b2216 k2216 .char (16 : Int32) [(iv 117), (iv 110), (iv 107), (iv 110), (iv 111), (iv 119), (iv 110), (iv 32), (iv 102), (iv 105), (iv 101), (iv 108), (iv 0), (iv 0), (iv 0), (iv 0)] (.int 0) := V2242
    refine g_dup X2242 hx (hb hby at_119) (q := 120) rfl rfl ?_
    refine bI X2242 hx (hb hby at_120) (q := 122) rfl (z := (12 : Int32)) rfl ?_
    refine bI X2242 hx (hb hby at_122) (q := 124) rfl (z := (100 : Int32)) rfl ?_
    have f2245 := f2243.trans (CHr.wr W2242 (Safe.arv hZ2204.alike Va2240 (by decide)) f2243.1)
    refine g_stC X2242 hx hZ2204 Va2242 (i := 12) (by decide) (by decide) (by decide) (Nat.le_of_ble_eq_true rfl) (y := (100 : Int32)) (by decide) e2242 (hb hby at_124) (q := 125) rfl ?_
    intro T2244 h2244 X2244 e2244 W2244 V2244
    have N2244 := Fr.snoc X2244 N2242 gz2218
    have Va2244 : Arv Z h2244 b2216 k2216 .char (16 : Int32) [(iv 117), (iv 110), (iv 107), (iv 110), (iv 111), (iv 119), (iv 110), (iv 32), (iv 102), (iv 105), (iv 101), (iv 108), (iv 100), (iv 0), (iv 0), (iv 0)] (.int 0) := V2244
    refine g_dup X2244 hx (hb hby at_125) (q := 126) rfl rfl ?_
    refine bI X2244 hx (hb hby at_126) (q := 128) rfl (z := (13 : Int32)) rfl ?_
    refine bI X2244 hx (hb hby at_128) (q := 130) rfl (z := (32 : Int32)) rfl ?_
    have f2247 := f2245.trans (CHr.wr W2244 (Safe.arv hZ2204.alike Va2242 (by decide)) f2245.1)
    refine g_stC X2244 hx hZ2204 Va2244 (i := 13) (by decide) (by decide) (by decide) (Nat.le_of_ble_eq_true rfl) (y := (32 : Int32)) (by decide) e2244 (hb hby at_130) (q := 131) rfl ?_
    intro T2246 h2246 X2246 e2246 W2246 V2246
    have N2246 := Fr.snoc X2246 N2244 gz2218
    have Va2246 : Arv Z h2246 b2216 k2216 .char (16 : Int32) [(iv 117), (iv 110), (iv 107), (iv 110), (iv 111), (iv 119), (iv 110), (iv 32), (iv 102), (iv 105), (iv 101), (iv 108), (iv 100), (iv 32), (iv 0), (iv 0)] (.int 0) := V2246
    refine g_dup X2246 hx (hb hby at_131) (q := 132) rfl rfl ?_
    refine bI X2246 hx (hb hby at_132) (q := 134) rfl (z := (14 : Int32)) rfl ?_
    refine bI X2246 hx (hb hby at_134) (q := 136) rfl (z := (39 : Int32)) rfl ?_
    have f2249 := f2247.trans (CHr.wr W2246 (Safe.arv hZ2204.alike Va2244 (by decide)) f2247.1)
    refine g_stC X2246 hx hZ2204 Va2246 (i := 14) (by decide) (by decide) (by decide) (Nat.le_of_ble_eq_true rfl) (y := (39 : Int32)) (by decide) e2246 (hb hby at_136) (q := 137) rfl ?_
    intro T2248 h2248 X2248 e2248 W2248 V2248
    have N2248 := Fr.snoc X2248 N2246 gz2218
    have Va2248 : Arv Z h2248 b2216 k2216 .char (16 : Int32) [(iv 117), (iv 110), (iv 107), (iv 110), (iv 111), (iv 119), (iv 110), (iv 32), (iv 102), (iv 105), (iv 101), (iv 108), (iv 100), (iv 32), (iv 39), (iv 0)] (.int 0) := V2248
    refine g_dup X2248 hx (hb hby at_137) (q := 138) rfl rfl ?_
    refine bI X2248 hx (hb hby at_138) (q := 140) rfl (z := (15 : Int32)) rfl ?_
    refine bI X2248 hx (hb hby at_140) (q := 142) rfl (z := (39 : Int32)) rfl ?_
    have f2251 := f2249.trans (CHr.wr W2248 (Safe.arv hZ2204.alike Va2246 (by decide)) f2249.1)
    refine g_stC X2248 hx hZ2204 Va2248 (i := 15) (by decide) (by decide) (by decide) (Nat.le_of_ble_eq_true rfl) (y := (39 : Int32)) (by decide) e2248 (hb hby at_142) (q := 143) rfl ?_
    intro T2250 h2250 X2250 e2250 W2250 V2250
    have N2250 := Fr.snoc X2250 N2248 gz2218
    have Va2250 : Arv Z h2250 b2216 k2216 .char (16 : Int32) [(iv 117), (iv 110), (iv 107), (iv 110), (iv 111), (iv 119), (iv 110), (iv 32), (iv 102), (iv 105), (iv 101), (iv 108), (iv 100), (iv 32), (iv 39), (iv 39)] (.int 0) := V2250
    refine sAw X2250 hx (hb hby at_143) (q := 145) rfl rfl (Ls' := #[.val (.int p0), .val (.int p1), .val (.int p2), .val (.int p3), .val (iv 0), .val (.int (chr p1)), .val (.int (chr p2)), .val (.int (chr p3)), .val (.ref b2194), .val (.ref b2216), .unset, .unset]) rfl ?_
    refine g_goto X2250 hx (hb hby at_145) (q := 688) (by decide) (by decide) ?_
    refine aLw X2250 hx (hb hby at_688) (q := 690) rfl rfl rfl ?_
    have f2344 := ThS.ext E2194 Th
    have f2345 := ThS.ext E2196 f2344
    have f2346 := ThS.keep K2204q (nsS (Exa.nostat f2205) ns0) f2345
    have f2347 := ThS.ext E2216 f2346
    have f2348 := ThS.wr W2217 f2347
    have f2349 := ThS.wr W2222 f2348
    have f2350 := ThS.wr W2224 f2349
    have f2351 := ThS.wr W2226 f2350
    have f2352 := ThS.wr W2228 f2351
    have f2353 := ThS.wr W2230 f2352
    have f2354 := ThS.wr W2232 f2353
    have f2355 := ThS.wr W2234 f2354
    have f2356 := ThS.wr W2236 f2355
    have f2357 := ThS.wr W2238 f2356
    have f2358 := ThS.wr W2240 f2357
    have f2359 := ThS.wr W2242 f2358
    have f2360 := ThS.wr W2244 f2359
    have f2361 := ThS.wr W2246 f2360
    have f2362 := ThS.wr W2248 f2361
    have f2363 := ThS.wr W2250 f2362
    have f2364 := q2204_0.ext E2216
    have f2365 := f2364.wr W2217
    have f2366 := f2365.wr W2222
    have f2367 := f2366.wr W2224
    have f2368 := f2367.wr W2226
    have f2369 := f2368.wr W2228
    have f2370 := f2369.wr W2230
    have f2371 := f2370.wr W2232
    have f2372 := f2371.wr W2234
    have f2373 := f2372.wr W2236
    have f2374 := f2373.wr W2238
    have f2375 := f2374.wr W2240
    have f2376 := f2375.wr W2242
    have f2377 := f2376.wr W2244
    have f2378 := f2377.wr W2246
    have f2379 := f2378.wr W2248
    have f2380 := f2379.wr W2250
    have f2381 := q2204_2.ext E2216
    have le2382 := (Nat.le_trans le2215 K2204q.1)
    have ne2383 : b2194 ≠ b2216 := (Nat.ne_of_lt (Nat.lt_of_lt_of_le (Nat.lt_of_lt_of_le A2194.lt le2382) (Nat.le_of_eq g2216.symm)))
    have f2384 := f2381.other W2217 (Or.inl ne2383)
    have f2385 := f2384.other W2222 (Or.inl ne2383)
    have f2386 := f2385.other W2224 (Or.inl ne2383)
    have f2387 := f2386.other W2226 (Or.inl ne2383)
    have f2388 := f2387.other W2228 (Or.inl ne2383)
    have f2389 := f2388.other W2230 (Or.inl ne2383)
    have f2390 := f2389.other W2232 (Or.inl ne2383)
    have f2391 := f2390.other W2234 (Or.inl ne2383)
    have f2392 := f2391.other W2236 (Or.inl ne2383)
    have f2393 := f2392.other W2238 (Or.inl ne2383)
    have f2394 := f2393.other W2240 (Or.inl ne2383)
    have f2395 := f2394.other W2242 (Or.inl ne2383)
    have f2396 := f2395.other W2244 (Or.inl ne2383)
    have f2397 := f2396.other W2246 (Or.inl ne2383)
    have f2398 := f2397.other W2248 (Or.inl ne2383)
    have f2399 := f2398.other W2250 (Or.inl ne2383)
    have f2400 := q2204_1.ext E2216
    have f2401 := f2400.other W2217 (Or.inl ne2383)
    have f2402 := f2401.other W2222 (Or.inl ne2383)
    have f2403 := f2402.other W2224 (Or.inl ne2383)
    have f2404 := f2403.other W2226 (Or.inl ne2383)
    have f2405 := f2404.other W2228 (Or.inl ne2383)
    have f2406 := f2405.other W2230 (Or.inl ne2383)
    have f2407 := f2406.other W2232 (Or.inl ne2383)
    have f2408 := f2407.other W2234 (Or.inl ne2383)
    have f2409 := f2408.other W2236 (Or.inl ne2383)
    have f2410 := f2409.other W2238 (Or.inl ne2383)
    have f2411 := f2410.other W2240 (Or.inl ne2383)
    have f2412 := f2411.other W2242 (Or.inl ne2383)
    have f2413 := f2412.other W2244 (Or.inl ne2383)
    have f2414 := f2413.other W2246 (Or.inl ne2383)
    have f2415 := f2414.other W2248 (Or.inl ne2383)
    have f2416 := f2415.other W2250 (Or.inl ne2383)
    have f2417 := q2204_3.ext E2216
    have ne2418 : t_2204 ≠ b2216 := (Nat.ne_of_lt (Nat.lt_of_lt_of_le (Nat.lt_of_lt_of_le q2204_3.lt (Nat.le_refl _)) (Nat.le_of_eq g2216.symm)))
    have f2419 := f2417.other W2217 ne2418
    have f2420 := f2419.other W2222 ne2418
    have f2421 := f2420.other W2224 ne2418
    have f2422 := f2421.other W2226 ne2418
    have f2423 := f2422.other W2228 ne2418
    have f2424 := f2423.other W2230 ne2418
    have f2425 := f2424.other W2232 ne2418
    have f2426 := f2425.other W2234 ne2418
    have f2427 := f2426.other W2236 ne2418
    have f2428 := f2427.other W2238 ne2418
    have f2429 := f2428.other W2240 ne2418
    have f2430 := f2429.other W2242 ne2418
    have f2431 := f2430.other W2244 ne2418
    have f2432 := f2431.other W2246 ne2418
    have f2433 := f2432.other W2248 ne2418
    have f2434 := f2433.other W2250 ne2418
    have f2435 := f2219.ext E2216
    have f2436 := f2435.wr W2217 gz2218
    have f2437 := f2436.wr W2222 gz2218
    have f2438 := f2437.wr W2224 gz2218
    have f2439 := f2438.wr W2226 gz2218
    have f2440 := f2439.wr W2228 gz2218
    have f2441 := f2440.wr W2230 gz2218
    have f2442 := f2441.wr W2232 gz2218
    have f2443 := f2442.wr W2234 gz2218
    have f2444 := f2443.wr W2236 gz2218
    have f2445 := f2444.wr W2238 gz2218
    have f2446 := f2445.wr W2240 gz2218
    have f2447 := f2446.wr W2242 gz2218
    have f2448 := f2447.wr W2244 gz2218
    have f2449 := f2448.wr W2246 gz2218
    have f2450 := f2449.wr W2248 gz2218
    have f2451 := f2450.wr W2250 gz2218
    have f2452 := f2251.trans (CHr.wr W2250 (Safe.arv hZ2204.alike Va2248 (by decide)) f2251.1)
    have le2453 := E2216.1
    have le2454 := (Nat.le_trans le2453 (Nat.le_of_eq (Wr.size W2217).symm))
    have le2455 := (Nat.le_trans le2454 (Nat.le_of_eq (Wr.size W2222).symm))
    have le2456 := (Nat.le_trans le2455 (Nat.le_of_eq (Wr.size W2224).symm))
    have le2457 := (Nat.le_trans le2456 (Nat.le_of_eq (Wr.size W2226).symm))
    have le2458 := (Nat.le_trans le2457 (Nat.le_of_eq (Wr.size W2228).symm))
    have le2459 := (Nat.le_trans le2458 (Nat.le_of_eq (Wr.size W2230).symm))
    have le2460 := (Nat.le_trans le2459 (Nat.le_of_eq (Wr.size W2232).symm))
    have le2461 := (Nat.le_trans le2460 (Nat.le_of_eq (Wr.size W2234).symm))
    have le2462 := (Nat.le_trans le2461 (Nat.le_of_eq (Wr.size W2236).symm))
    have le2463 := (Nat.le_trans le2462 (Nat.le_of_eq (Wr.size W2238).symm))
    have le2464 := (Nat.le_trans le2463 (Nat.le_of_eq (Wr.size W2240).symm))
    have le2465 := (Nat.le_trans le2464 (Nat.le_of_eq (Wr.size W2242).symm))
    have le2466 := (Nat.le_trans le2465 (Nat.le_of_eq (Wr.size W2244).symm))
    have le2467 := (Nat.le_trans le2466 (Nat.le_of_eq (Wr.size W2246).symm))
    have le2468 := (Nat.le_trans le2467 (Nat.le_of_eq (Wr.size W2248).symm))
    have le2469 := (Nat.le_trans le2468 (Nat.le_of_eq (Wr.size W2250).symm))
    refine g_stS X2250 hx hZ2204 hown2204 hS2204 (Nat.le_trans (Nat.le_refl _) le2469) (wd23 hw) (wd24 hw) (wd25 hw) (wd26 hw) (by decide) e2250 (ConK.back (W := 0) (rm_uf0 l Z a0 hw hl zC SC PC hX b2194 t_2204 kb_2204 h2250 f2451 f2363 f2380 f2399 f2416 f2434) hZ2204 (wd26 hw) (wd25 hw) (by decide) (by decide) (own_EW hw) f2452.1 sf0 all0 (Vm.MethodsKnown.alikeC (hZ0.alike.symm.trans hZ2204.alike) hTK0) (Vm.FramesKnown.alikeC (hZ0.alike.symm.trans hZ2204.alike) hBF0)) (by rw [hml]; rfl) (lenOf pd25 rfl) rfl (Nat.le_of_eq rfl) (hb hby at_690) (q := 693) rfl (by decide) (by decide) ?_
    rintro v2343 T2343 L2343 ⟨X2343, hS2343, hZ2343, hown2343, R2343⟩ Q2343
    obtain ⟨r_2343, m_2343, c_2343, kc_2343, rfl, Nq2343, K2343q, q2343_0, q2343_1, q2343_2, q2343_3, q2343_4, q2343_5, q2343_6⟩ := Q2343
    have N2343 := Fr.app N2250 Nq2343
    show Go _ _ _ _ (T2343.setTop (mkF m 693 #[.val (.int p0), .val (.int p1), .val (.int p2), .val (.int p3), .val (iv 0), .val (.int (chr p1)), .val (.int (chr p2)), .val (.int (chr p3)), .val (.ref b2194), .val (.ref b2216), .unset, .unset] [(.ref r_2343)]))
    refine sAw X2343 hx (hb hby at_693) (q := 695) rfl rfl (Ls' := #[.val (.int p0), .val (.int p1), .val (.int p2), .val (.int p3), .val (iv 0), .val (.int (chr p1)), .val (.int (chr p2)), .val (.int (chr p3)), .val (.ref b2194), .val (.ref b2216), .val (.ref r_2343), .unset]) rfl ?_
    refine aLw X2343 hx (hb hby at_695) (q := 697) rfl rfl rfl ?_
    refine nnY X2343 hx (hb hby at_697) (q := 702) (by decide) (by decide) ?_
    refine aLw X2343 hx (hb hby at_702) (q := 704) rfl rfl rfl ?_
    have f2471 := f2451.keep K2343q all0
    refine g_vu X2343 hx hZ2343 hown2343 (wd207 hw) (wd208 hw) (wd209 hw) (by decide) (wd211 hw) (wd210 hw) q2343_1 rfl (Con.back (W := 0) (rm_gmsg l Z a0 hw hl zC SC PC hX r_2343 m_2343 T2343.heap f2471 q2343_2) hZ2343 (wd212 hw) (wd168 hw) (by decide) (by decide)) (by rw [hml]; rfl) (lenOf pd19 rfl) rfl (Nat.le_of_eq rfl) (hb hby at_704) (q := 707) rfl (by decide) (by decide) ?_
    intro v2470 T2470 L2470 X2470 Q2470
    obtain ⟨rfl, Nq2470, e2470⟩ := Q2470
    have N2470 := Fr.app N2343 Nq2470
    show Go _ _ _ _ (T2470.setTop (mkF m 707 #[.val (.int p0), .val (.int p1), .val (.int p2), .val (.int p3), .val (iv 0), .val (.int (chr p1)), .val (.int (chr p2)), .val (.int (chr p3)), .val (.ref b2194), .val (.ref b2216), .val (.ref r_2343), .unset] [(.ref m_2343)]))
    refine sAw X2470 hx (hb hby at_707) (q := 709) rfl rfl (Ls' := #[.val (.int p0), .val (.int p1), .val (.int p2), .val (.int p3), .val (iv 0), .val (.int (chr p1)), .val (.int (chr p2)), .val (.int (chr p3)), .val (.ref b2194), .val (.ref b2216), .val (.ref r_2343), .val (.ref m_2343)]) rfl ?_
    refine aLw X2470 hx (hb hby at_709) (q := 711) rfl rfl rfl ?_
    refine nlN X2470 hx (hb hby at_711) (q := 714) rfl ?_
    refine aLw X2470 hx (hb hby at_714) (q := 716) rfl rfl rfl ?_
    refine g_new X2470 hx hZ2343 hown2343 (wd1 hw) (wd2 hw) (wd3 hw) (by decide) (by decide) e2470 (hb hby at_716) (q := 719) rfl ?_
    intro T2472 h2472 b2472 g2472 X2472 e2472 E2472 A2472 D2472
    have sf2473 : Safe Z EL T2343.vm T2343.heap b2472 := Safe.new (Nat.le_of_eq g2472.symm)
    have F2472_17 := D2472 (Or.inr (wd17 hw)) (ty := (.array .byte)) (by decide)
    have F2472_18 := D2472 (Or.inr (wd18 hw)) (ty := .byte) (by decide)
    refine g_dup X2472 hx (hb hby at_719) (q := 720) rfl rfl ?_
    refine aLw X2472 hx (hb hby at_720) (q := 722) rfl rfl rfl ?_
    have f2475 := f2471.ext E2472
    have gz2476 : Z.heap.size ≤ b2472 := Nat.le_trans f2471.2.1 (Nat.le_of_eq g2472.symm)
    have f2477 := Va2250.keep K2343q nin0
    have f2478 := f2477.ext E2472
    refine g_sp X2472 hx hZ2343 hown2343 (wd5 hw) (wd6 hw) (wd7 hw) rfl (by decide) e2472 (StrChars.Road.backV (s := (s.setVm T2343.vm)) (W := 2) hZ2343 (own_wStr hw) (kI := 4) (wd2 hw) (cs := ([(117 : Int32), (110 : Int32), (107 : Int32), (110 : Int32), (111 : Int32), (119 : Int32), (110 : Int32), (32 : Int32), (102 : Int32), (105 : Int32), (101 : Int32), (108 : Int32), (100 : Int32), (32 : Int32), (39 : Int32), (39 : Int32)] : List Int32)) (bs := (([(117 : Int32), (110 : Int32), (107 : Int32), (110 : Int32), (111 : Int32), (119 : Int32), (110 : Int32), (32 : Int32), (102 : Int32), (105 : Int32), (101 : Int32), (108 : Int32), (100 : Int32), (32 : Int32), (39 : Int32), (39 : Int32)] : List Int32).map (fun c => c.toInt8.toInt32))) (n := 16) gz2476 f2475.2.1 A2472 F2472_17 F2472_18 f2478 (SC.ext f2475.2) PC rfl rfl (by decide) (by decide) (alS lr117 (alS lr110 (alS lr107 (alS lr110 (alS lr111 (alS lr119 (alS lr110 (alS lr32 (alS lr102 (alS lr105 (alS lr101 (alS lr108 (alS lr100 (alS lr32 (alS lr39 (alS lr39 al0)))))))))))))))) rfl (by decide) (by decide)) (a := b2472) (argsL := [.ref b2216]) (W := 2) (nk := 1) (ns := 16) (Qc := StrChars.Road.QV Z b2472 (16 : Int32) (([(117 : Int32), (110 : Int32), (107 : Int32), (110 : Int32), (111 : Int32), (119 : Int32), (110 : Int32), (32 : Int32), (102 : Int32), (105 : Int32), (101 : Int32), (108 : Int32), (100 : Int32), (32 : Int32), (39 : Int32), (39 : Int32)] : List Int32).map (fun c => c.toInt8.toInt32)) h2472 Z.heap.size) (by rw [hml]; rfl) (lenOf pd24 rfl) rfl (Nat.le_of_eq rfl) (hb hby at_722) (q := 725) rfl (by decide) (by decide) ?_
    intro v2474 T2474 L2474 X2474 Q2474
    obtain ⟨rfl, Nq2474, K2474q, E2474q, C2474q, t2474, kb2474, tz2474, tg2474, tn2474, Fv2474, Va2474⟩ := Q2474
    have N2474 := Fr.app N2470 Nq2474
    have Vb2474 : Arv Z T2474.heap t2474 kb2474 .byte (16 : Int32) [(iv 117), (iv 110), (iv 107), (iv 110), (iv 111), (iv 119), (iv 110), (iv 32), (iv 102), (iv 105), (iv 101), (iv 108), (iv 100), (iv 32), (iv 39), (iv 39)] (.int 0) := Va2474
    show Go _ _ _ _ (T2474.setTop (mkF m 725 #[.val (.int p0), .val (.int p1), .val (.int p2), .val (.int p3), .val (iv 0), .val (.int (chr p1)), .val (.int (chr p2)), .val (.int (chr p3)), .val (.ref b2194), .val (.ref b2216), .val (.ref r_2343), .val (.ref m_2343)] [(.ref b2472), (.ref m_2343)]))
    have f2490 := q2343_3.ext E2472
    have f2491 := f2490.keep K2474q
    have f2492 := q2343_4.ext E2472
    have ne2493 : m_2343 ≠ b2472 := (Nat.ne_of_lt (Nat.lt_of_lt_of_le (Nat.lt_of_lt_of_le q2343_3.lt (Nat.le_refl _)) (Nat.le_of_eq g2472.symm)))
    have f2494 := f2492.keep K2474q (ninS ne2493 nin0)
    have f2495 := q2343_5.ext E2472
    have f2496 := f2495.keep K2474q (ninS ne2493 nin0)
    have f2497 := q2343_6.ext E2472
    have ne2498 : c_2343 ≠ b2472 := (Nat.ne_of_lt (Nat.lt_of_lt_of_le (Nat.lt_of_lt_of_le q2343_6.lt (Nat.le_refl _)) (Nat.le_of_eq g2472.symm)))
    have f2499 := f2497.keep K2474q (ninS ne2498 nin0)
    have f2500 := f2475.keep K2474q (allS gz2476 all0)
    refine g_vi X2474 hx hZ2343 hown2343 (wd223 hw) (wd224 hw) (notFace_of_selects (args := #[]) (mvT hZ2343 (wd226 hw))) (wd226 hw) (wd225 hw) (by decide) f2491 rfl (Con.back (W := 0) (rm_seq l Z a0 hw hl zC SC PC hX m_2343 c_2343 kc_2343 b2472 t2474 kb2474 (16 : Int32) [(iv 117), (iv 110), (iv 107), (iv 110), (iv 111), (iv 119), (iv 110), (iv 32), (iv 102), (iv 105), (iv 101), (iv 108), (iv 100), (iv 32), (iv 39), (iv 39)] T2474.heap f2500 f2491 f2494 f2496 f2499 E2474q C2474q Fv2474 Vb2474 ne2493) hZ2343 (wd227 hw) (wd3 hw) (by decide) (by decide)) (by rw [hml]; rfl) (lenOf pd26 rfl) rfl (Nat.le_of_eq rfl) (hb hby at_725) (q := 728) rfl (by decide) (by decide) ?_
    intro v2489 T2489 L2489 X2489 Q2489
    obtain ⟨rfl, Nq2489, e2489⟩ := Q2489
    have N2489 := Fr.app N2474 Nq2489
    show Go _ _ _ _ (T2489.setTop (mkF m 728 #[.val (.int p0), .val (.int p1), .val (.int p2), .val (.int p3), .val (iv 0), .val (.int (chr p1)), .val (.int (chr p2)), .val (.int (chr p3)), .val (.ref b2194), .val (.ref b2216), .val (.ref r_2343), .val (.ref m_2343)] [(iv 1)]))
    refine ifN X2489 hx (hb hby at_728) (q := 731) rfl (by decide) ?_
    refine cI X2489 hx (hb hby at_731) (q := 732) rfl (z := (1 : Int32)) rfl ?_
    refine g_goto X2489 hx (hb hby at_732) (q := 736) (by decide) (by decide) ?_
    have le2501 := E2472.1
    have le2502 := (Nat.le_trans le2501 K2474q.1)
    have f2503 := f2452.trans R2343
    have f2504 := f2503.trans (CHr.ext E2472 f2503.1)
    have f2505 := Safe.ext E2472 f2503.1 sf2473
    have f2506 := f2504.trans (CHr.keep K2474q (sfS f2505 sf0) f2504.1)
    refine endC X2489 hlk hS2343 (by rw [e2489]; exact (Nat.le_trans (Nat.le_refl _) le2502)) hZ2343 (own_EW hw) (by rw [e2489]; exact f2506) (fun h => by rw [hret] at h; cases h) (lastN X2489 hx (t := .boolean) (z' := (1 : Int32)) hret (by simp) (by decide) (hb hby at_736)) ?_ (by decide) (by decide)
    rw [e2489]
    exact ⟨rfl, N2489, trivial⟩
  · rw [hk2190]
    show Go _ _ _ _ (T0.setTop (mkF m 6 #[.val (.int p0), .val (.int p1), .val (.int p2), .val (.int p3), .unset, .unset, .unset, .unset, .unset, .unset, .unset, .unset] [(iv 1)]))
    refine sIw X0 hx (hb hby at_6) (q := 8) rfl (Ls' := #[.val (.int p0), .val (.int p1), .val (.int p2), .val (.int p3), .val (iv 1), .unset, .unset, .unset, .unset, .unset, .unset, .unset]) rfl ?_
    refine iL X0 hx (hb hby at_8) (q := 9) rfl rfl ?_
    refine pI X0 hx (hb hby at_9) (q := 12) rfl (z := (255 : Int32)) rfl ?_
    refine g_iand X0 hx (hb hby at_12) (q := 13) rfl rfl ?_
    refine g_i2c X0 hx (hb hby at_13) (q := 14) rfl (z := (chr p1)) rfl ?_
    refine sIw X0 hx (hb hby at_14) (q := 16) rfl (Ls' := #[.val (.int p0), .val (.int p1), .val (.int p2), .val (.int p3), .val (iv 1), .val (.int (chr p1)), .unset, .unset, .unset, .unset, .unset, .unset]) rfl ?_
    refine iL X0 hx (hb hby at_16) (q := 17) rfl rfl ?_
    refine pI X0 hx (hb hby at_17) (q := 20) rfl (z := (255 : Int32)) rfl ?_
    refine g_iand X0 hx (hb hby at_20) (q := 21) rfl rfl ?_
    refine g_i2c X0 hx (hb hby at_21) (q := 22) rfl (z := (chr p2)) rfl ?_
    refine sIw X0 hx (hb hby at_22) (q := 24) rfl (Ls' := #[.val (.int p0), .val (.int p1), .val (.int p2), .val (.int p3), .val (iv 1), .val (.int (chr p1)), .val (.int (chr p2)), .unset, .unset, .unset, .unset, .unset]) rfl ?_
    refine iL X0 hx (hb hby at_24) (q := 25) rfl rfl ?_
    refine pI X0 hx (hb hby at_25) (q := 28) rfl (z := (255 : Int32)) rfl ?_
    refine g_iand X0 hx (hb hby at_28) (q := 29) rfl rfl ?_
    refine g_i2c X0 hx (hb hby at_29) (q := 30) rfl (z := (chr p3)) rfl ?_
    refine sIw X0 hx (hb hby at_30) (q := 32) rfl (Ls' := #[.val (.int p0), .val (.int p1), .val (.int p2), .val (.int p3), .val (iv 1), .val (.int (chr p1)), .val (.int (chr p2)), .val (.int (chr p3)), .unset, .unset, .unset, .unset]) rfl ?_
    refine iLw X0 hx (hb hby at_32) (q := 34) rfl rfl ?_
    refine ifY X0 hx (hb hby at_34) (q := 148) (by decide) (by decide) (by decide) ?_
    refine iLw X0 hx (hb hby at_148) (q := 150) rfl rfl ?_
    refine cI X0 hx (hb hby at_150) (q := 151) rfl (z := (1 : Int32)) rfl ?_
    refine icN X0 hx (hb hby at_151) (q := 154) rfl (by decide) ?_
    refine g_new X0 hx hZ0 hown0 (wd1 hw) (wd2 hw) (wd3 hw) (by decide) (by decide) e0 (hb hby at_154) (q := 157) rfl ?_
    intro T2507 h2507 b2507 g2507 X2507 e2507 E2507 A2507 D2507
    have sf2508 : Safe Z EL v0 h0 b2507 := Safe.new (Nat.le_of_eq g2507.symm)
    have F2507_17 := D2507 (Or.inr (wd17 hw)) (ty := (.array .byte)) (by decide)
    have F2507_18 := D2507 (Or.inr (wd18 hw)) (ty := .byte) (by decide)
    refine g_dup X2507 hx (hb hby at_157) (q := 158) rfl rfl ?_
    refine cI X2507 hx (hb hby at_158) (q := 159) rfl (z := (1 : Int32)) rfl ?_
    refine g_newA X2507 hx hZ0 (aty := .char) (wd4 hw) (by decide) (n := 1) (by decide) (by decide) (by decide) (by decide) e2507 (hb hby at_159) (q := 161) rfl ?_
    intro T2509 h2509 k2509 b2509 g2509 X2509 e2509 E2509 V2509
    have Va2509 : Arv Z h2509 b2509 k2509 .char (1 : Int32) [(iv 0)] (.int 0) := V2509
    refine g_dup X2509 hx (hb hby at_161) (q := 162) rfl rfl ?_
    refine cI X2509 hx (hb hby at_162) (q := 163) rfl (z := (0 : Int32)) rfl ?_
    refine iLw X2509 hx (hb hby at_163) (q := 165) rfl rfl ?_
    have f2512 := O0.ext E2507
    have gz2511 : Z.heap.size ≤ b2509 := Nat.le_trans f2512.2.1 (Nat.le_of_eq g2509.symm)
    have f2513 := C0.trans (CHr.ext E2507 C0.1)
    have f2514 := f2513.trans (CHr.ext E2509 f2513.1)
    refine g_stC X2509 hx hZ0 Va2509 (i := 0) (by decide) (by decide) (by decide) (Nat.le_of_ble_eq_true rfl) (y := (chr p1)) (chr_nar _) e2509 (hb hby at_165) (q := 166) rfl ?_
    intro T2510 h2510 X2510 e2510 W2510 V2510
    have N2510 := Fr.snoc X2510 N0 gz2511
    have Va2510 : Arv Z h2510 b2509 k2509 .char (1 : Int32) [(.int (chr p1))] (.int 0) := V2510
    have f2516 := f2512.ext E2509
    have f2517 := f2516.wr W2510 gz2511
    have gz2518 : Z.heap.size ≤ b2507 := Nat.le_trans O0.2.1 (Nat.le_of_eq g2507.symm)
    have f2519 := A2507.ext E2509
    have f2520 := f2519.wr W2510
    have f2521 := F2507_17.ext E2509
    have ne2522 : b2507 ≠ b2509 := (Nat.ne_of_lt (Nat.lt_of_lt_of_le (Nat.lt_of_lt_of_le A2507.lt (Nat.le_refl _)) (Nat.le_of_eq g2509.symm)))
    have f2523 := f2521.other W2510 (Or.inl ne2522)
    have f2524 := F2507_18.ext E2509
    have f2525 := f2524.other W2510 (Or.inl ne2522)
    refine g_sp X2510 hx hZ0 hown0 (wd5 hw) (wd6 hw) (wd7 hw) rfl (by decide) e2510 (StrChars.Road.backV (s := (s.setVm v0)) (W := 1) hZ0 (own_wStr hw) (kI := 4) (wd2 hw) (cs := ([(chr p1)] : List Int32)) (bs := (([(chr p1)] : List Int32).map (fun c => c.toInt8.toInt32))) (n := 1) gz2518 f2517.2.1 f2520 f2523 f2525 Va2510 (SC.ext f2517.2) PC rfl rfl (by decide) (by decide) (alS (chr_rng _) al0) rfl (by decide) (by decide)) (a := b2507) (argsL := [.ref b2509]) (W := 1) (nk := 1) (ns := 1) (Qc := StrChars.Road.QV Z b2507 (1 : Int32) (([(chr p1)] : List Int32).map (fun c => c.toInt8.toInt32)) h2510 Z.heap.size) (by rw [hml]; rfl) (lenOf pd24 rfl) rfl (Nat.le_of_eq rfl) (hb hby at_166) (q := 169) rfl (by decide) (by decide) ?_
    intro v2515 T2515 L2515 X2515 Q2515
    obtain ⟨rfl, Nq2515, K2515q, E2515q, C2515q, t2515, kb2515, tz2515, tg2515, tn2515, Fv2515, Va2515⟩ := Q2515
    have N2515 := Fr.app N2510 Nq2515
    have Vb2515 : Arv Z T2515.heap t2515 kb2515 .byte (1 : Int32) [(.int (StrChars.lo8 (chr p1)))] (.int 0) := Va2515
    show Go _ _ _ _ (T2515.setTop (mkF m 169 #[.val (.int p0), .val (.int p1), .val (.int p2), .val (.int p3), .val (iv 1), .val (.int (chr p1)), .val (.int (chr p2)), .val (.int (chr p3)), .unset, .unset, .unset, .unset] [(.ref b2507)]))
    refine sAw X2515 hx (hb hby at_169) (q := 171) rfl rfl (Ls' := #[.val (.int p0), .val (.int p1), .val (.int p2), .val (.int p3), .val (iv 1), .val (.int (chr p1)), .val (.int (chr p2)), .val (.int (chr p3)), .val (.ref b2507), .unset, .unset, .unset]) rfl ?_
    refine bI X2515 hx (hb hby at_171) (q := 173) rfl (z := (17 : Int32)) rfl ?_
    refine g_newA X2515 hx hZ0 (aty := .char) (wd4 hw) (by decide) (n := 17) (by decide) (by decide) (by decide) (by decide) rfl (hb hby at_173) (q := 175) rfl ?_
    intro T2526 h2526 k2526 b2526 g2526 X2526 e2526 E2526 V2526
    have Va2526 : Arv Z h2526 b2526 k2526 .char (17 : Int32) [(iv 0), (iv 0), (iv 0), (iv 0), (iv 0), (iv 0), (iv 0), (iv 0), (iv 0), (iv 0), (iv 0), (iv 0), (iv 0), (iv 0), (iv 0), (iv 0), (iv 0)] (.int 0) := V2526
    refine g_dup X2526 hx (hb hby at_175) (q := 176) rfl rfl ?_
    refine cI X2526 hx (hb hby at_176) (q := 177) rfl (z := (0 : Int32)) rfl ?_
    refine bI X2526 hx (hb hby at_177) (q := 179) rfl (z := (117 : Int32)) rfl ?_
    have f2529 := f2517.keep K2515q (allS gz2518 all0)
    have gz2528 : Z.heap.size ≤ b2526 := Nat.le_trans f2529.2.1 (Nat.le_of_eq g2526.symm)
    have f2530 := f2514.trans (CHr.wr W2510 (Safe.arv hZ0.alike Va2509 (by decide)) f2514.1)
    have f2531 := Safe.ext E2507 C0.1 sf2508
    have f2532 := Safe.ext E2509 f2513.1 f2531
    have f2533 := Safe.wr W2510 (Safe.arv hZ0.alike Va2509 (by decide)) f2514.1 f2532
    have f2534 := f2530.trans (CHr.keep K2515q (sfS f2533 sf0) f2530.1)
    have f2535 := f2534.trans (CHr.ext E2526 f2534.1)
    refine g_stC X2526 hx hZ0 Va2526 (i := 0) (by decide) (by decide) (by decide) (Nat.le_of_ble_eq_true rfl) (y := (117 : Int32)) (by decide) e2526 (hb hby at_179) (q := 180) rfl ?_
    intro T2527 h2527 X2527 e2527 W2527 V2527
    have N2527 := Fr.snoc X2527 N2515 gz2528
    have Va2527 : Arv Z h2527 b2526 k2526 .char (17 : Int32) [(iv 117), (iv 0), (iv 0), (iv 0), (iv 0), (iv 0), (iv 0), (iv 0), (iv 0), (iv 0), (iv 0), (iv 0), (iv 0), (iv 0), (iv 0), (iv 0), (iv 0)] (.int 0) := V2527
    refine g_dup X2527 hx (hb hby at_180) (q := 181) rfl rfl ?_
    refine cI X2527 hx (hb hby at_181) (q := 182) rfl (z := (1 : Int32)) rfl ?_
    refine bI X2527 hx (hb hby at_182) (q := 184) rfl (z := (110 : Int32)) rfl ?_
    have f2537 := f2535.trans (CHr.wr W2527 (Safe.arv hZ0.alike Va2526 (by decide)) f2535.1)
    refine g_stC X2527 hx hZ0 Va2527 (i := 1) (by decide) (by decide) (by decide) (Nat.le_of_ble_eq_true rfl) (y := (110 : Int32)) (by decide) e2527 (hb hby at_184) (q := 185) rfl ?_
    intro T2536 h2536 X2536 e2536 W2536 V2536
    have N2536 := Fr.snoc X2536 N2527 gz2528
    have Va2536 : Arv Z h2536 b2526 k2526 .char (17 : Int32) [(iv 117), (iv 110), (iv 0), (iv 0), (iv 0), (iv 0), (iv 0), (iv 0), (iv 0), (iv 0), (iv 0), (iv 0), (iv 0), (iv 0), (iv 0), (iv 0), (iv 0)] (.int 0) := V2536
    refine g_dup X2536 hx (hb hby at_185) (q := 186) rfl rfl ?_
    refine cI X2536 hx (hb hby at_186) (q := 187) rfl (z := (2 : Int32)) rfl ?_
    refine bI X2536 hx (hb hby at_187) (q := 189) rfl (z := (107 : Int32)) rfl ?_
    have f2539 := f2537.trans (CHr.wr W2536 (Safe.arv hZ0.alike Va2527 (by decide)) f2537.1)
    refine g_stC X2536 hx hZ0 Va2536 (i := 2) (by decide) (by decide) (by decide) (Nat.le_of_ble_eq_true rfl) (y := (107 : Int32)) (by decide) e2536 (hb hby at_189) (q := 190) rfl ?_
    intro T2538 h2538 X2538 e2538 W2538 V2538
    have N2538 := Fr.snoc X2538 N2536 gz2528
    have Va2538 : Arv Z h2538 b2526 k2526 .char (17 : Int32) [(iv 117), (iv 110), (iv 107), (iv 0), (iv 0), (iv 0), (iv 0), (iv 0), (iv 0), (iv 0), (iv 0), (iv 0), (iv 0), (iv 0), (iv 0), (iv 0), (iv 0)] (.int 0) := V2538
    refine g_dup X2538 hx (hb hby at_190) (q := 191) rfl rfl ?_
    refine cI X2538 hx (hb hby at_191) (q := 192) rfl (z := (3 : Int32)) rfl ?_
    refine bI X2538 hx (hb hby at_192) (q := 194) rfl (z := (110 : Int32)) rfl ?_
    have f2541 := f2539.trans (CHr.wr W2538 (Safe.arv hZ0.alike Va2536 (by decide)) f2539.1)
    refine g_stC X2538 hx hZ0 Va2538 (i := 3) (by decide) (by decide) (by decide) (Nat.le_of_ble_eq_true rfl) (y := (110 : Int32)) (by decide) e2538 (hb hby at_194) (q := 195) rfl ?_
    intro T2540 h2540 X2540 e2540 W2540 V2540
    have N2540 := Fr.snoc X2540 N2538 gz2528
    have Va2540 : Arv Z h2540 b2526 k2526 .char (17 : Int32) [(iv 117), (iv 110), (iv 107), (iv 110), (iv 0), (iv 0), (iv 0), (iv 0), (iv 0), (iv 0), (iv 0), (iv 0), (iv 0), (iv 0), (iv 0), (iv 0), (iv 0)] (.int 0) := V2540
    refine g_dup X2540 hx (hb hby at_195) (q := 196) rfl rfl ?_
    refine cI X2540 hx (hb hby at_196) (q := 197) rfl (z := (4 : Int32)) rfl ?_
    refine bI X2540 hx (hb hby at_197) (q := 199) rfl (z := (111 : Int32)) rfl ?_
    have f2543 := f2541.trans (CHr.wr W2540 (Safe.arv hZ0.alike Va2538 (by decide)) f2541.1)
    refine g_stC X2540 hx hZ0 Va2540 (i := 4) (by decide) (by decide) (by decide) (Nat.le_of_ble_eq_true rfl) (y := (111 : Int32)) (by decide) e2540 (hb hby at_199) (q := 200) rfl ?_
    intro T2542 h2542 X2542 e2542 W2542 V2542
    have N2542 := Fr.snoc X2542 N2540 gz2528
    have Va2542 : Arv Z h2542 b2526 k2526 .char (17 : Int32) [(iv 117), (iv 110), (iv 107), (iv 110), (iv 111), (iv 0), (iv 0), (iv 0), (iv 0), (iv 0), (iv 0), (iv 0), (iv 0), (iv 0), (iv 0), (iv 0), (iv 0)] (.int 0) := V2542
    refine g_dup X2542 hx (hb hby at_200) (q := 201) rfl rfl ?_
    refine cI X2542 hx (hb hby at_201) (q := 202) rfl (z := (5 : Int32)) rfl ?_
    refine bI X2542 hx (hb hby at_202) (q := 204) rfl (z := (119 : Int32)) rfl ?_
    have f2545 := f2543.trans (CHr.wr W2542 (Safe.arv hZ0.alike Va2540 (by decide)) f2543.1)
    refine g_stC X2542 hx hZ0 Va2542 (i := 5) (by decide) (by decide) (by decide) (Nat.le_of_ble_eq_true rfl) (y := (119 : Int32)) (by decide) e2542 (hb hby at_204) (q := 205) rfl ?_
    intro T2544 h2544 X2544 e2544 W2544 V2544
    have N2544 := Fr.snoc X2544 N2542 gz2528
    have Va2544 : Arv Z h2544 b2526 k2526 .char (17 : Int32) [(iv 117), (iv 110), (iv 107), (iv 110), (iv 111), (iv 119), (iv 0), (iv 0), (iv 0), (iv 0), (iv 0), (iv 0), (iv 0), (iv 0), (iv 0), (iv 0), (iv 0)] (.int 0) := V2544
    refine g_dup X2544 hx (hb hby at_205) (q := 206) rfl rfl ?_
    refine bI X2544 hx (hb hby at_206) (q := 208) rfl (z := (6 : Int32)) rfl ?_
    refine bI X2544 hx (hb hby at_208) (q := 210) rfl (z := (110 : Int32)) rfl ?_
    have f2547 := f2545.trans (CHr.wr W2544 (Safe.arv hZ0.alike Va2542 (by decide)) f2545.1)
    refine g_stC X2544 hx hZ0 Va2544 (i := 6) (by decide) (by decide) (by decide) (Nat.le_of_ble_eq_true rfl) (y := (110 : Int32)) (by decide) e2544 (hb hby at_210) (q := 211) rfl ?_
    intro T2546 h2546 X2546 e2546 W2546 V2546
    have N2546 := Fr.snoc X2546 N2544 gz2528
    have Va2546 : Arv Z h2546 b2526 k2526 .char (17 : Int32) [(iv 117), (iv 110), (iv 107), (iv 110), (iv 111), (iv 119), (iv 110), (iv 0), (iv 0), (iv 0), (iv 0), (iv 0), (iv 0), (iv 0), (iv 0), (iv 0), (iv 0)] (.int 0) := V2546
    refine g_dup X2546 hx (hb hby at_211) (q := 212) rfl rfl ?_
    refine bI X2546 hx (hb hby at_212) (q := 214) rfl (z := (7 : Int32)) rfl ?_
    refine bI X2546 hx (hb hby at_214) (q := 216) rfl (z := (32 : Int32)) rfl ?_
    have f2549 := f2547.trans (CHr.wr W2546 (Safe.arv hZ0.alike Va2544 (by decide)) f2547.1)
    refine g_stC X2546 hx hZ0 Va2546 (i := 7) (by decide) (by decide) (by decide) (Nat.le_of_ble_eq_true rfl) (y := (32 : Int32)) (by decide) e2546 (hb hby at_216) (q := 217) rfl ?_
    intro T2548 h2548 X2548 e2548 W2548 V2548
    have N2548 := Fr.snoc X2548 N2546 gz2528
    have Va2548 : Arv Z h2548 b2526 k2526 .char (17 : Int32) [(iv 117), (iv 110), (iv 107), (iv 110), (iv 111), (iv 119), (iv 110), (iv 32), (iv 0), (iv 0), (iv 0), (iv 0), (iv 0), (iv 0), (iv 0), (iv 0), (iv 0)] (.int 0) := V2548
    refine g_dup X2548 hx (hb hby at_217) (q := 218) rfl rfl ?_
    refine bI X2548 hx (hb hby at_218) (q := 220) rfl (z := (8 : Int32)) rfl ?_
    refine bI X2548 hx (hb hby at_220) (q := 222) rfl (z := (102 : Int32)) rfl ?_
    have f2551 := f2549.trans (CHr.wr W2548 (Safe.arv hZ0.alike Va2546 (by decide)) f2549.1)
    refine g_stC X2548 hx hZ0 Va2548 (i := 8) (by decide) (by decide) (by decide) (Nat.le_of_ble_eq_true rfl) (y := (102 : Int32)) (by decide) e2548 (hb hby at_222) (q := 223) rfl ?_
    intro T2550 h2550 X2550 e2550 W2550 V2550
    have N2550 := Fr.snoc X2550 N2548 gz2528
    have Va2550 : Arv Z h2550 b2526 k2526 .char (17 : Int32) [(iv 117), (iv 110), (iv 107), (iv 110), (iv 111), (iv 119), (iv 110), (iv 32), (iv 102), (iv 0), (iv 0), (iv 0), (iv 0), (iv 0), (iv 0), (iv 0), (iv 0)] (.int 0) := V2550
    refine g_dup X2550 hx (hb hby at_223) (q := 224) rfl rfl ?_
    refine bI X2550 hx (hb hby at_224) (q := 226) rfl (z := (9 : Int32)) rfl ?_
    refine bI X2550 hx (hb hby at_226) (q := 228) rfl (z := (105 : Int32)) rfl ?_
    have f2553 := f2551.trans (CHr.wr W2550 (Safe.arv hZ0.alike Va2548 (by decide)) f2551.1)
    refine g_stC X2550 hx hZ0 Va2550 (i := 9) (by decide) (by decide) (by decide) (Nat.le_of_ble_eq_true rfl) (y := (105 : Int32)) (by decide) e2550 (hb hby at_228) (q := 229) rfl ?_
    intro T2552 h2552 X2552 e2552 W2552 V2552
    have N2552 := Fr.snoc X2552 N2550 gz2528
    have Va2552 : Arv Z h2552 b2526 k2526 .char (17 : Int32) [(iv 117), (iv 110), (iv 107), (iv 110), (iv 111), (iv 119), (iv 110), (iv 32), (iv 102), (iv 105), (iv 0), (iv 0), (iv 0), (iv 0), (iv 0), (iv 0), (iv 0)] (.int 0) := V2552
    refine g_dup X2552 hx (hb hby at_229) (q := 230) rfl rfl ?_
    refine bI X2552 hx (hb hby at_230) (q := 232) rfl (z := (10 : Int32)) rfl ?_
    refine bI X2552 hx (hb hby at_232) (q := 234) rfl (z := (101 : Int32)) rfl ?_
    have f2555 := f2553.trans (CHr.wr W2552 (Safe.arv hZ0.alike Va2550 (by decide)) f2553.1)
    refine g_stC X2552 hx hZ0 Va2552 (i := 10) (by decide) (by decide) (by decide) (Nat.le_of_ble_eq_true rfl) (y := (101 : Int32)) (by decide) e2552 (hb hby at_234) (q := 235) rfl ?_
    intro T2554 h2554 X2554 e2554 W2554 V2554
    have N2554 := Fr.snoc X2554 N2552 gz2528
    have Va2554 : Arv Z h2554 b2526 k2526 .char (17 : Int32) [(iv 117), (iv 110), (iv 107), (iv 110), (iv 111), (iv 119), (iv 110), (iv 32), (iv 102), (iv 105), (iv 101), (iv 0), (iv 0), (iv 0), (iv 0), (iv 0), (iv 0)] (.int 0) := V2554
    refine g_dup X2554 hx (hb hby at_235) (q := 236) rfl rfl ?_
    refine bI X2554 hx (hb hby at_236) (q := 238) rfl (z := (11 : Int32)) rfl ?_
    refine bI X2554 hx (hb hby at_238) (q := 240) rfl (z := (108 : Int32)) rfl ?_
    have f2557 := f2555.trans (CHr.wr W2554 (Safe.arv hZ0.alike Va2552 (by decide)) f2555.1)
    refine g_stC X2554 hx hZ0 Va2554 (i := 11) (by decide) (by decide) (by decide) (Nat.le_of_ble_eq_true rfl) (y := (108 : Int32)) (by decide) e2554 (hb hby at_240) (q := 241) rfl ?_
    intro T2556 h2556 X2556 e2556 W2556 V2556
    have N2556 := Fr.snoc X2556 N2554 gz2528
    have Va2556 : Arv Z h2556 b2526 k2526 .char (17 : Int32) [(iv 117), (iv 110), (iv 107), (iv 110), (iv 111), (iv 119), (iv 110), (iv 32), (iv 102), (iv 105), (iv 101), (iv 108), (iv 0), (iv 0), (iv 0), (iv 0), (iv 0)] (.int 0) := V2556
    refine g_dup X2556 hx (hb hby at_241) (q := 242) rfl rfl ?_
    refine bI X2556 hx (hb hby at_242) (q := 244) rfl (z := (12 : Int32)) rfl ?_
    refine bI X2556 hx (hb hby at_244) (q := 246) rfl (z := (100 : Int32)) rfl ?_
    have f2559 := f2557.trans (CHr.wr W2556 (Safe.arv hZ0.alike Va2554 (by decide)) f2557.1)
    refine g_stC X2556 hx hZ0 Va2556 (i := 12) (by decide) (by decide) (by decide) (Nat.le_of_ble_eq_true rfl) (y := (100 : Int32)) (by decide) e2556 (hb hby at_246) (q := 247) rfl ?_
    intro T2558 h2558 X2558 e2558 W2558 V2558
    have N2558 := Fr.snoc X2558 N2556 gz2528
    have Va2558 : Arv Z h2558 b2526 k2526 .char (17 : Int32) [(iv 117), (iv 110), (iv 107), (iv 110), (iv 111), (iv 119), (iv 110), (iv 32), (iv 102), (iv 105), (iv 101), (iv 108), (iv 100), (iv 0), (iv 0), (iv 0), (iv 0)] (.int 0) := V2558
    refine g_dup X2558 hx (hb hby at_247) (q := 248) rfl rfl ?_
    refine bI X2558 hx (hb hby at_248) (q := 250) rfl (z := (13 : Int32)) rfl ?_
    refine bI X2558 hx (hb hby at_250) (q := 252) rfl (z := (32 : Int32)) rfl ?_
    have f2561 := f2559.trans (CHr.wr W2558 (Safe.arv hZ0.alike Va2556 (by decide)) f2559.1)
    refine g_stC X2558 hx hZ0 Va2558 (i := 13) (by decide) (by decide) (by decide) (Nat.le_of_ble_eq_true rfl) (y := (32 : Int32)) (by decide) e2558 (hb hby at_252) (q := 253) rfl ?_
    intro T2560 h2560 X2560 e2560 W2560 V2560
    have N2560 := Fr.snoc X2560 N2558 gz2528
    have Va2560 : Arv Z h2560 b2526 k2526 .char (17 : Int32) [(iv 117), (iv 110), (iv 107), (iv 110), (iv 111), (iv 119), (iv 110), (iv 32), (iv 102), (iv 105), (iv 101), (iv 108), (iv 100), (iv 32), (iv 0), (iv 0), (iv 0)] (.int 0) := V2560
    refine g_dup X2560 hx (hb hby at_253) (q := 254) rfl rfl ?_
    refine bI X2560 hx (hb hby at_254) (q := 256) rfl (z := (14 : Int32)) rfl ?_
    refine bI X2560 hx (hb hby at_256) (q := 258) rfl (z := (39 : Int32)) rfl ?_
    have f2563 := f2561.trans (CHr.wr W2560 (Safe.arv hZ0.alike Va2558 (by decide)) f2561.1)
    refine g_stC X2560 hx hZ0 Va2560 (i := 14) (by decide) (by decide) (by decide) (Nat.le_of_ble_eq_true rfl) (y := (39 : Int32)) (by decide) e2560 (hb hby at_258) (q := 259) rfl ?_
    intro T2562 h2562 X2562 e2562 W2562 V2562
    have N2562 := Fr.snoc X2562 N2560 gz2528
    have Va2562 : Arv Z h2562 b2526 k2526 .char (17 : Int32) [(iv 117), (iv 110), (iv 107), (iv 110), (iv 111), (iv 119), (iv 110), (iv 32), (iv 102), (iv 105), (iv 101), (iv 108), (iv 100), (iv 32), (iv 39), (iv 0), (iv 0)] (.int 0) := V2562
    refine g_dup X2562 hx (hb hby at_259) (q := 260) rfl rfl ?_
    refine bI X2562 hx (hb hby at_260) (q := 262) rfl (z := (15 : Int32)) rfl ?_
    refine iLw X2562 hx (hb hby at_262) (q := 264) rfl rfl ?_
    have f2565 := f2563.trans (CHr.wr W2562 (Safe.arv hZ0.alike Va2560 (by decide)) f2563.1)
    refine g_stC X2562 hx hZ0 Va2562 (i := 15) (by decide) (by decide) (by decide) (Nat.le_of_ble_eq_true rfl) (y := (chr p1)) (chr_nar _) e2562 (hb hby at_264) (q := 265) rfl ?_
    intro T2564 h2564 X2564 e2564 W2564 V2564
    have N2564 := Fr.snoc X2564 N2562 gz2528
    have Va2564 : Arv Z h2564 b2526 k2526 .char (17 : Int32) [(iv 117), (iv 110), (iv 107), (iv 110), (iv 111), (iv 119), (iv 110), (iv 32), (iv 102), (iv 105), (iv 101), (iv 108), (iv 100), (iv 32), (iv 39), (.int (chr p1)), (iv 0)] (.int 0) := V2564
    refine g_dup X2564 hx (hb hby at_265) (q := 266) rfl rfl ?_
    refine bI X2564 hx (hb hby at_266) (q := 268) rfl (z := (16 : Int32)) rfl ?_
    refine bI X2564 hx (hb hby at_268) (q := 270) rfl (z := (39 : Int32)) rfl ?_
    have f2567 := f2565.trans (CHr.wr W2564 (Safe.arv hZ0.alike Va2562 (by decide)) f2565.1)
    refine g_stC X2564 hx hZ0 Va2564 (i := 16) (by decide) (by decide) (by decide) (Nat.le_of_ble_eq_true rfl) (y := (39 : Int32)) (by decide) e2564 (hb hby at_270) (q := 271) rfl ?_
    intro T2566 h2566 X2566 e2566 W2566 V2566
    have N2566 := Fr.snoc X2566 N2564 gz2528
    have Va2566 : Arv Z h2566 b2526 k2526 .char (17 : Int32) [(iv 117), (iv 110), (iv 107), (iv 110), (iv 111), (iv 119), (iv 110), (iv 32), (iv 102), (iv 105), (iv 101), (iv 108), (iv 100), (iv 32), (iv 39), (.int (chr p1)), (iv 39)] (.int 0) := V2566
    refine sAw X2566 hx (hb hby at_271) (q := 273) rfl rfl (Ls' := #[.val (.int p0), .val (.int p1), .val (.int p2), .val (.int p3), .val (iv 1), .val (.int (chr p1)), .val (.int (chr p2)), .val (.int (chr p3)), .val (.ref b2507), .val (.ref b2526), .unset, .unset]) rfl ?_
    refine g_goto X2566 hx (hb hby at_273) (q := 688) (by decide) (by decide) ?_
    refine aLw X2566 hx (hb hby at_688) (q := 690) rfl rfl rfl ?_
    have f2748 := ThS.ext E2507 Th
    have f2749 := ThS.ext E2509 f2748
    have f2750 := ThS.wr W2510 f2749
    have f2751 := ThS.keep K2515q (nsS (Exa.nostat f2520) ns0) f2750
    have f2752 := ThS.ext E2526 f2751
    have f2753 := ThS.wr W2527 f2752
    have f2754 := ThS.wr W2536 f2753
    have f2755 := ThS.wr W2538 f2754
    have f2756 := ThS.wr W2540 f2755
    have f2757 := ThS.wr W2542 f2756
    have f2758 := ThS.wr W2544 f2757
    have f2759 := ThS.wr W2546 f2758
    have f2760 := ThS.wr W2548 f2759
    have f2761 := ThS.wr W2550 f2760
    have f2762 := ThS.wr W2552 f2761
    have f2763 := ThS.wr W2554 f2762
    have f2764 := ThS.wr W2556 f2763
    have f2765 := ThS.wr W2558 f2764
    have f2766 := ThS.wr W2560 f2765
    have f2767 := ThS.wr W2562 f2766
    have f2768 := ThS.wr W2564 f2767
    have f2769 := ThS.wr W2566 f2768
    have f2770 := E2515q.ext E2526
    have f2771 := f2770.wr W2527
    have f2772 := f2771.wr W2536
    have f2773 := f2772.wr W2538
    have f2774 := f2773.wr W2540
    have f2775 := f2774.wr W2542
    have f2776 := f2775.wr W2544
    have f2777 := f2776.wr W2546
    have f2778 := f2777.wr W2548
    have f2779 := f2778.wr W2550
    have f2780 := f2779.wr W2552
    have f2781 := f2780.wr W2554
    have f2782 := f2781.wr W2556
    have f2783 := f2782.wr W2558
    have f2784 := f2783.wr W2560
    have f2785 := f2784.wr W2562
    have f2786 := f2785.wr W2564
    have f2787 := f2786.wr W2566
    have f2788 := C2515q.ext E2526
    have le2789 := E2509.1
    have le2790 := (Nat.le_trans le2789 (Nat.le_of_eq (Wr.size W2510).symm))
    have le2791 := (Nat.le_trans le2790 K2515q.1)
    have ne2792 : b2507 ≠ b2526 := (Nat.ne_of_lt (Nat.lt_of_lt_of_le (Nat.lt_of_lt_of_le A2507.lt le2791) (Nat.le_of_eq g2526.symm)))
    have f2793 := f2788.other W2527 (Or.inl ne2792)
    have f2794 := f2793.other W2536 (Or.inl ne2792)
    have f2795 := f2794.other W2538 (Or.inl ne2792)
    have f2796 := f2795.other W2540 (Or.inl ne2792)
    have f2797 := f2796.other W2542 (Or.inl ne2792)
    have f2798 := f2797.other W2544 (Or.inl ne2792)
    have f2799 := f2798.other W2546 (Or.inl ne2792)
    have f2800 := f2799.other W2548 (Or.inl ne2792)
    have f2801 := f2800.other W2550 (Or.inl ne2792)
    have f2802 := f2801.other W2552 (Or.inl ne2792)
    have f2803 := f2802.other W2554 (Or.inl ne2792)
    have f2804 := f2803.other W2556 (Or.inl ne2792)
    have f2805 := f2804.other W2558 (Or.inl ne2792)
    have f2806 := f2805.other W2560 (Or.inl ne2792)
    have f2807 := f2806.other W2562 (Or.inl ne2792)
    have f2808 := f2807.other W2564 (Or.inl ne2792)
    have f2809 := f2808.other W2566 (Or.inl ne2792)
    have f2810 := Fv2515.ext E2526
    have f2811 := f2810.other W2527 (Or.inl ne2792)
    have f2812 := f2811.other W2536 (Or.inl ne2792)
    have f2813 := f2812.other W2538 (Or.inl ne2792)
    have f2814 := f2813.other W2540 (Or.inl ne2792)
    have f2815 := f2814.other W2542 (Or.inl ne2792)
    have f2816 := f2815.other W2544 (Or.inl ne2792)
    have f2817 := f2816.other W2546 (Or.inl ne2792)
    have f2818 := f2817.other W2548 (Or.inl ne2792)
    have f2819 := f2818.other W2550 (Or.inl ne2792)
    have f2820 := f2819.other W2552 (Or.inl ne2792)
    have f2821 := f2820.other W2554 (Or.inl ne2792)
    have f2822 := f2821.other W2556 (Or.inl ne2792)
    have f2823 := f2822.other W2558 (Or.inl ne2792)
    have f2824 := f2823.other W2560 (Or.inl ne2792)
    have f2825 := f2824.other W2562 (Or.inl ne2792)
    have f2826 := f2825.other W2564 (Or.inl ne2792)
    have f2827 := f2826.other W2566 (Or.inl ne2792)
    have f2828 := Vb2515.ext E2526
    have ne2829 : t2515 ≠ b2526 := (Nat.ne_of_lt (Nat.lt_of_lt_of_le (Nat.lt_of_lt_of_le Vb2515.lt (Nat.le_refl _)) (Nat.le_of_eq g2526.symm)))
    have f2830 := f2828.other W2527 ne2829
    have f2831 := f2830.other W2536 ne2829
    have f2832 := f2831.other W2538 ne2829
    have f2833 := f2832.other W2540 ne2829
    have f2834 := f2833.other W2542 ne2829
    have f2835 := f2834.other W2544 ne2829
    have f2836 := f2835.other W2546 ne2829
    have f2837 := f2836.other W2548 ne2829
    have f2838 := f2837.other W2550 ne2829
    have f2839 := f2838.other W2552 ne2829
    have f2840 := f2839.other W2554 ne2829
    have f2841 := f2840.other W2556 ne2829
    have f2842 := f2841.other W2558 ne2829
    have f2843 := f2842.other W2560 ne2829
    have f2844 := f2843.other W2562 ne2829
    have f2845 := f2844.other W2564 ne2829
    have f2846 := f2845.other W2566 ne2829
    have f2847 := f2529.ext E2526
    have f2848 := f2847.wr W2527 gz2528
    have f2849 := f2848.wr W2536 gz2528
    have f2850 := f2849.wr W2538 gz2528
    have f2851 := f2850.wr W2540 gz2528
    have f2852 := f2851.wr W2542 gz2528
    have f2853 := f2852.wr W2544 gz2528
    have f2854 := f2853.wr W2546 gz2528
    have f2855 := f2854.wr W2548 gz2528
    have f2856 := f2855.wr W2550 gz2528
    have f2857 := f2856.wr W2552 gz2528
    have f2858 := f2857.wr W2554 gz2528
    have f2859 := f2858.wr W2556 gz2528
    have f2860 := f2859.wr W2558 gz2528
    have f2861 := f2860.wr W2560 gz2528
    have f2862 := f2861.wr W2562 gz2528
    have f2863 := f2862.wr W2564 gz2528
    have f2864 := f2863.wr W2566 gz2528
    have f2865 := f2567.trans (CHr.wr W2566 (Safe.arv hZ0.alike Va2564 (by decide)) f2567.1)
    refine g_stS X2566 hx hZ0 hown0 hS0 (Nat.zero_le _) (wd23 hw) (wd24 hw) (wd25 hw) (wd26 hw) (by decide) e2566 (ConK.back (W := 0) (rm_uf1 l Z a0 hw hl zC SC PC hX b2507 t2515 kb2515 (StrChars.lo8 (chr p1)) h2566 f2864 f2769 f2787 f2809 f2827 f2846) hZ0 (wd26 hw) (wd25 hw) (by decide) (by decide) (own_EW hw) f2865.1 sf0 all0 (Vm.MethodsKnown.alikeC (hZ0.alike.symm.trans hZ0.alike) hTK0) (Vm.FramesKnown.alikeC (hZ0.alike.symm.trans hZ0.alike) hBF0)) (by rw [hml]; rfl) (lenOf pd25 rfl) rfl (Nat.le_of_eq rfl) (hb hby at_690) (q := 693) rfl (by decide) (by decide) ?_
    rintro v2747 T2747 L2747 ⟨X2747, hS2747, hZ2747, hown2747, R2747⟩ Q2747
    obtain ⟨r_2747, m_2747, c_2747, kc_2747, rfl, Nq2747, K2747q, q2747_0, q2747_1, q2747_2, q2747_3, q2747_4, q2747_5, q2747_6⟩ := Q2747
    have N2747 := Fr.app N2566 Nq2747
    show Go _ _ _ _ (T2747.setTop (mkF m 693 #[.val (.int p0), .val (.int p1), .val (.int p2), .val (.int p3), .val (iv 1), .val (.int (chr p1)), .val (.int (chr p2)), .val (.int (chr p3)), .val (.ref b2507), .val (.ref b2526), .unset, .unset] [(.ref r_2747)]))
    refine sAw X2747 hx (hb hby at_693) (q := 695) rfl rfl (Ls' := #[.val (.int p0), .val (.int p1), .val (.int p2), .val (.int p3), .val (iv 1), .val (.int (chr p1)), .val (.int (chr p2)), .val (.int (chr p3)), .val (.ref b2507), .val (.ref b2526), .val (.ref r_2747), .unset]) rfl ?_
    refine aLw X2747 hx (hb hby at_695) (q := 697) rfl rfl rfl ?_
    refine nnY X2747 hx (hb hby at_697) (q := 702) (by decide) (by decide) ?_
    refine aLw X2747 hx (hb hby at_702) (q := 704) rfl rfl rfl ?_
    have f2867 := f2864.keep K2747q all0
    refine g_vu X2747 hx hZ2747 hown2747 (wd207 hw) (wd208 hw) (wd209 hw) (by decide) (wd211 hw) (wd210 hw) q2747_1 rfl (Con.back (W := 0) (rm_gmsg l Z a0 hw hl zC SC PC hX r_2747 m_2747 T2747.heap f2867 q2747_2) hZ2747 (wd212 hw) (wd168 hw) (by decide) (by decide)) (by rw [hml]; rfl) (lenOf pd19 rfl) rfl (Nat.le_of_eq rfl) (hb hby at_704) (q := 707) rfl (by decide) (by decide) ?_
    intro v2866 T2866 L2866 X2866 Q2866
    obtain ⟨rfl, Nq2866, e2866⟩ := Q2866
    have N2866 := Fr.app N2747 Nq2866
    show Go _ _ _ _ (T2866.setTop (mkF m 707 #[.val (.int p0), .val (.int p1), .val (.int p2), .val (.int p3), .val (iv 1), .val (.int (chr p1)), .val (.int (chr p2)), .val (.int (chr p3)), .val (.ref b2507), .val (.ref b2526), .val (.ref r_2747), .unset] [(.ref m_2747)]))
    refine sAw X2866 hx (hb hby at_707) (q := 709) rfl rfl (Ls' := #[.val (.int p0), .val (.int p1), .val (.int p2), .val (.int p3), .val (iv 1), .val (.int (chr p1)), .val (.int (chr p2)), .val (.int (chr p3)), .val (.ref b2507), .val (.ref b2526), .val (.ref r_2747), .val (.ref m_2747)]) rfl ?_
    refine aLw X2866 hx (hb hby at_709) (q := 711) rfl rfl rfl ?_
    refine nlN X2866 hx (hb hby at_711) (q := 714) rfl ?_
    refine aLw X2866 hx (hb hby at_714) (q := 716) rfl rfl rfl ?_
    refine g_new X2866 hx hZ2747 hown2747 (wd1 hw) (wd2 hw) (wd3 hw) (by decide) (by decide) e2866 (hb hby at_716) (q := 719) rfl ?_
    intro T2868 h2868 b2868 g2868 X2868 e2868 E2868 A2868 D2868
    have sf2869 : Safe Z EL T2747.vm T2747.heap b2868 := Safe.new (Nat.le_of_eq g2868.symm)
    have F2868_17 := D2868 (Or.inr (wd17 hw)) (ty := (.array .byte)) (by decide)
    have F2868_18 := D2868 (Or.inr (wd18 hw)) (ty := .byte) (by decide)
    refine g_dup X2868 hx (hb hby at_719) (q := 720) rfl rfl ?_
    refine aLw X2868 hx (hb hby at_720) (q := 722) rfl rfl rfl ?_
    have f2871 := f2867.ext E2868
    have gz2872 : Z.heap.size ≤ b2868 := Nat.le_trans f2867.2.1 (Nat.le_of_eq g2868.symm)
    have f2873 := Va2566.keep K2747q nin0
    have f2874 := f2873.ext E2868
    refine g_sp X2868 hx hZ2747 hown2747 (wd5 hw) (wd6 hw) (wd7 hw) rfl (by decide) e2868 (StrChars.Road.backV (s := (s.setVm T2747.vm)) (W := 2) hZ2747 (own_wStr hw) (kI := 4) (wd2 hw) (cs := ([(117 : Int32), (110 : Int32), (107 : Int32), (110 : Int32), (111 : Int32), (119 : Int32), (110 : Int32), (32 : Int32), (102 : Int32), (105 : Int32), (101 : Int32), (108 : Int32), (100 : Int32), (32 : Int32), (39 : Int32), (chr p1), (39 : Int32)] : List Int32)) (bs := (([(117 : Int32), (110 : Int32), (107 : Int32), (110 : Int32), (111 : Int32), (119 : Int32), (110 : Int32), (32 : Int32), (102 : Int32), (105 : Int32), (101 : Int32), (108 : Int32), (100 : Int32), (32 : Int32), (39 : Int32), (chr p1), (39 : Int32)] : List Int32).map (fun c => c.toInt8.toInt32))) (n := 17) gz2872 f2871.2.1 A2868 F2868_17 F2868_18 f2874 (SC.ext f2871.2) PC rfl rfl (by decide) (by decide) (alS lr117 (alS lr110 (alS lr107 (alS lr110 (alS lr111 (alS lr119 (alS lr110 (alS lr32 (alS lr102 (alS lr105 (alS lr101 (alS lr108 (alS lr100 (alS lr32 (alS lr39 (alS (chr_rng _) (alS lr39 al0))))))))))))))))) rfl (by decide) (by decide)) (a := b2868) (argsL := [.ref b2526]) (W := 2) (nk := 1) (ns := 17) (Qc := StrChars.Road.QV Z b2868 (17 : Int32) (([(117 : Int32), (110 : Int32), (107 : Int32), (110 : Int32), (111 : Int32), (119 : Int32), (110 : Int32), (32 : Int32), (102 : Int32), (105 : Int32), (101 : Int32), (108 : Int32), (100 : Int32), (32 : Int32), (39 : Int32), (chr p1), (39 : Int32)] : List Int32).map (fun c => c.toInt8.toInt32)) h2868 Z.heap.size) (by rw [hml]; rfl) (lenOf pd24 rfl) rfl (Nat.le_of_eq rfl) (hb hby at_722) (q := 725) rfl (by decide) (by decide) ?_
    intro v2870 T2870 L2870 X2870 Q2870
    obtain ⟨rfl, Nq2870, K2870q, E2870q, C2870q, t2870, kb2870, tz2870, tg2870, tn2870, Fv2870, Va2870⟩ := Q2870
    have N2870 := Fr.app N2866 Nq2870
    have Vb2870 : Arv Z T2870.heap t2870 kb2870 .byte (17 : Int32) [(iv 117), (iv 110), (iv 107), (iv 110), (iv 111), (iv 119), (iv 110), (iv 32), (iv 102), (iv 105), (iv 101), (iv 108), (iv 100), (iv 32), (iv 39), (.int (StrChars.lo8 (chr p1))), (iv 39)] (.int 0) := Va2870
    show Go _ _ _ _ (T2870.setTop (mkF m 725 #[.val (.int p0), .val (.int p1), .val (.int p2), .val (.int p3), .val (iv 1), .val (.int (chr p1)), .val (.int (chr p2)), .val (.int (chr p3)), .val (.ref b2507), .val (.ref b2526), .val (.ref r_2747), .val (.ref m_2747)] [(.ref b2868), (.ref m_2747)]))
    have f2886 := q2747_3.ext E2868
    have f2887 := f2886.keep K2870q
    have f2888 := q2747_4.ext E2868
    have ne2889 : m_2747 ≠ b2868 := (Nat.ne_of_lt (Nat.lt_of_lt_of_le (Nat.lt_of_lt_of_le q2747_3.lt (Nat.le_refl _)) (Nat.le_of_eq g2868.symm)))
    have f2890 := f2888.keep K2870q (ninS ne2889 nin0)
    have f2891 := q2747_5.ext E2868
    have f2892 := f2891.keep K2870q (ninS ne2889 nin0)
    have f2893 := q2747_6.ext E2868
    have ne2894 : c_2747 ≠ b2868 := (Nat.ne_of_lt (Nat.lt_of_lt_of_le (Nat.lt_of_lt_of_le q2747_6.lt (Nat.le_refl _)) (Nat.le_of_eq g2868.symm)))
    have f2895 := f2893.keep K2870q (ninS ne2894 nin0)
    have f2896 := f2871.keep K2870q (allS gz2872 all0)
    refine g_vi X2870 hx hZ2747 hown2747 (wd223 hw) (wd224 hw) (notFace_of_selects (args := #[]) (mvT hZ2747 (wd226 hw))) (wd226 hw) (wd225 hw) (by decide) f2887 rfl (Con.back (W := 0) (rm_seq l Z a0 hw hl zC SC PC hX m_2747 c_2747 kc_2747 b2868 t2870 kb2870 (17 : Int32) [(iv 117), (iv 110), (iv 107), (iv 110), (iv 111), (iv 119), (iv 110), (iv 32), (iv 102), (iv 105), (iv 101), (iv 108), (iv 100), (iv 32), (iv 39), (.int (StrChars.lo8 (chr p1))), (iv 39)] T2870.heap f2896 f2887 f2890 f2892 f2895 E2870q C2870q Fv2870 Vb2870 ne2889) hZ2747 (wd227 hw) (wd3 hw) (by decide) (by decide)) (by rw [hml]; rfl) (lenOf pd26 rfl) rfl (Nat.le_of_eq rfl) (hb hby at_725) (q := 728) rfl (by decide) (by decide) ?_
    intro v2885 T2885 L2885 X2885 Q2885
    obtain ⟨rfl, Nq2885, e2885⟩ := Q2885
    have N2885 := Fr.app N2870 Nq2885
    show Go _ _ _ _ (T2885.setTop (mkF m 728 #[.val (.int p0), .val (.int p1), .val (.int p2), .val (.int p3), .val (iv 1), .val (.int (chr p1)), .val (.int (chr p2)), .val (.int (chr p3)), .val (.ref b2507), .val (.ref b2526), .val (.ref r_2747), .val (.ref m_2747)] [(iv 1)]))
    refine ifN X2885 hx (hb hby at_728) (q := 731) rfl (by decide) ?_
    refine cI X2885 hx (hb hby at_731) (q := 732) rfl (z := (1 : Int32)) rfl ?_
    refine g_goto X2885 hx (hb hby at_732) (q := 736) (by decide) (by decide) ?_
    have le2897 := E2868.1
    have le2898 := (Nat.le_trans le2897 K2870q.1)
    have f2899 := f2865.trans R2747
    have f2900 := f2899.trans (CHr.ext E2868 f2899.1)
    have f2901 := Safe.ext E2868 f2899.1 sf2869
    have f2902 := f2900.trans (CHr.keep K2870q (sfS f2901 sf0) f2900.1)
    refine endC X2885 hlk hS2747 (by rw [e2885]; exact (Nat.le_trans (Nat.le_refl _) le2898)) hZ2747 (own_EW hw) (by rw [e2885]; exact f2902) (fun h => by rw [hret] at h; cases h) (lastN X2885 hx (t := .boolean) (z' := (1 : Int32)) hret (by simp) (by decide) (hb hby at_736)) ?_ (by decide) (by decide)
    rw [e2885]
    exact ⟨rfl, N2885, trivial⟩
  · rw [hk2191]
    show Go _ _ _ _ (T0.setTop (mkF m 6 #[.val (.int p0), .val (.int p1), .val (.int p2), .val (.int p3), .unset, .unset, .unset, .unset, .unset, .unset, .unset, .unset] [(iv 2)]))
    refine sIw X0 hx (hb hby at_6) (q := 8) rfl (Ls' := #[.val (.int p0), .val (.int p1), .val (.int p2), .val (.int p3), .val (iv 2), .unset, .unset, .unset, .unset, .unset, .unset, .unset]) rfl ?_
    refine iL X0 hx (hb hby at_8) (q := 9) rfl rfl ?_
    refine pI X0 hx (hb hby at_9) (q := 12) rfl (z := (255 : Int32)) rfl ?_
    refine g_iand X0 hx (hb hby at_12) (q := 13) rfl rfl ?_
    refine g_i2c X0 hx (hb hby at_13) (q := 14) rfl (z := (chr p1)) rfl ?_
    refine sIw X0 hx (hb hby at_14) (q := 16) rfl (Ls' := #[.val (.int p0), .val (.int p1), .val (.int p2), .val (.int p3), .val (iv 2), .val (.int (chr p1)), .unset, .unset, .unset, .unset, .unset, .unset]) rfl ?_
    refine iL X0 hx (hb hby at_16) (q := 17) rfl rfl ?_
    refine pI X0 hx (hb hby at_17) (q := 20) rfl (z := (255 : Int32)) rfl ?_
    refine g_iand X0 hx (hb hby at_20) (q := 21) rfl rfl ?_
    refine g_i2c X0 hx (hb hby at_21) (q := 22) rfl (z := (chr p2)) rfl ?_
    refine sIw X0 hx (hb hby at_22) (q := 24) rfl (Ls' := #[.val (.int p0), .val (.int p1), .val (.int p2), .val (.int p3), .val (iv 2), .val (.int (chr p1)), .val (.int (chr p2)), .unset, .unset, .unset, .unset, .unset]) rfl ?_
    refine iL X0 hx (hb hby at_24) (q := 25) rfl rfl ?_
    refine pI X0 hx (hb hby at_25) (q := 28) rfl (z := (255 : Int32)) rfl ?_
    refine g_iand X0 hx (hb hby at_28) (q := 29) rfl rfl ?_
    refine g_i2c X0 hx (hb hby at_29) (q := 30) rfl (z := (chr p3)) rfl ?_
    refine sIw X0 hx (hb hby at_30) (q := 32) rfl (Ls' := #[.val (.int p0), .val (.int p1), .val (.int p2), .val (.int p3), .val (iv 2), .val (.int (chr p1)), .val (.int (chr p2)), .val (.int (chr p3)), .unset, .unset, .unset, .unset]) rfl ?_
    refine iLw X0 hx (hb hby at_32) (q := 34) rfl rfl ?_
    refine ifY X0 hx (hb hby at_34) (q := 148) (by decide) (by decide) (by decide) ?_
    refine iLw X0 hx (hb hby at_148) (q := 150) rfl rfl ?_
    refine cI X0 hx (hb hby at_150) (q := 151) rfl (z := (1 : Int32)) rfl ?_
    refine icY X0 hx (hb hby at_151) (q := 276) (by decide) (by decide) (by decide) ?_
    refine iLw X0 hx (hb hby at_276) (q := 278) rfl rfl ?_
    refine cI X0 hx (hb hby at_278) (q := 279) rfl (z := (2 : Int32)) rfl ?_
    refine icN X0 hx (hb hby at_279) (q := 282) rfl (by decide) ?_
    refine g_new X0 hx hZ0 hown0 (wd1 hw) (wd2 hw) (wd3 hw) (by decide) (by decide) e0 (hb hby at_282) (q := 285) rfl ?_
    intro T2903 h2903 b2903 g2903 X2903 e2903 E2903 A2903 D2903
    have sf2904 : Safe Z EL v0 h0 b2903 := Safe.new (Nat.le_of_eq g2903.symm)
    have F2903_17 := D2903 (Or.inr (wd17 hw)) (ty := (.array .byte)) (by decide)
    have F2903_18 := D2903 (Or.inr (wd18 hw)) (ty := .byte) (by decide)
    refine g_dup X2903 hx (hb hby at_285) (q := 286) rfl rfl ?_
    refine cI X2903 hx (hb hby at_286) (q := 287) rfl (z := (2 : Int32)) rfl ?_
    refine g_newA X2903 hx hZ0 (aty := .char) (wd4 hw) (by decide) (n := 2) (by decide) (by decide) (by decide) (by decide) e2903 (hb hby at_287) (q := 289) rfl ?_
    intro T2905 h2905 k2905 b2905 g2905 X2905 e2905 E2905 V2905
    have Va2905 : Arv Z h2905 b2905 k2905 .char (2 : Int32) [(iv 0), (iv 0)] (.int 0) := V2905
    refine g_dup X2905 hx (hb hby at_289) (q := 290) rfl rfl ?_
    refine cI X2905 hx (hb hby at_290) (q := 291) rfl (z := (0 : Int32)) rfl ?_
    refine iLw X2905 hx (hb hby at_291) (q := 293) rfl rfl ?_
    have f2908 := O0.ext E2903
    have gz2907 : Z.heap.size ≤ b2905 := Nat.le_trans f2908.2.1 (Nat.le_of_eq g2905.symm)
    have f2909 := C0.trans (CHr.ext E2903 C0.1)
    have f2910 := f2909.trans (CHr.ext E2905 f2909.1)
    refine g_stC X2905 hx hZ0 Va2905 (i := 0) (by decide) (by decide) (by decide) (Nat.le_of_ble_eq_true rfl) (y := (chr p1)) (chr_nar _) e2905 (hb hby at_293) (q := 294) rfl ?_
    intro T2906 h2906 X2906 e2906 W2906 V2906
    have N2906 := Fr.snoc X2906 N0 gz2907
    have Va2906 : Arv Z h2906 b2905 k2905 .char (2 : Int32) [(.int (chr p1)), (iv 0)] (.int 0) := V2906
    refine g_dup X2906 hx (hb hby at_294) (q := 295) rfl rfl ?_
    refine cI X2906 hx (hb hby at_295) (q := 296) rfl (z := (1 : Int32)) rfl ?_
    refine iLw X2906 hx (hb hby at_296) (q := 298) rfl rfl ?_
    have f2912 := f2910.trans (CHr.wr W2906 (Safe.arv hZ0.alike Va2905 (by decide)) f2910.1)
    refine g_stC X2906 hx hZ0 Va2906 (i := 1) (by decide) (by decide) (by decide) (Nat.le_of_ble_eq_true rfl) (y := (chr p2)) (chr_nar _) e2906 (hb hby at_298) (q := 299) rfl ?_
    intro T2911 h2911 X2911 e2911 W2911 V2911
    have N2911 := Fr.snoc X2911 N2906 gz2907
    have Va2911 : Arv Z h2911 b2905 k2905 .char (2 : Int32) [(.int (chr p1)), (.int (chr p2))] (.int 0) := V2911
    have f2914 := f2908.ext E2905
    have f2915 := f2914.wr W2906 gz2907
    have f2916 := f2915.wr W2911 gz2907
    have gz2917 : Z.heap.size ≤ b2903 := Nat.le_trans O0.2.1 (Nat.le_of_eq g2903.symm)
    have f2918 := A2903.ext E2905
    have f2919 := f2918.wr W2906
    have f2920 := f2919.wr W2911
    have f2921 := F2903_17.ext E2905
    have ne2922 : b2903 ≠ b2905 := (Nat.ne_of_lt (Nat.lt_of_lt_of_le (Nat.lt_of_lt_of_le A2903.lt (Nat.le_refl _)) (Nat.le_of_eq g2905.symm)))
    have f2923 := f2921.other W2906 (Or.inl ne2922)
    have f2924 := f2923.other W2911 (Or.inl ne2922)
    have f2925 := F2903_18.ext E2905
    have f2926 := f2925.other W2906 (Or.inl ne2922)
    have f2927 := f2926.other W2911 (Or.inl ne2922)
    refine g_sp X2911 hx hZ0 hown0 (wd5 hw) (wd6 hw) (wd7 hw) rfl (by decide) e2911 (StrChars.Road.backV (s := (s.setVm v0)) (W := 1) hZ0 (own_wStr hw) (kI := 4) (wd2 hw) (cs := ([(chr p1), (chr p2)] : List Int32)) (bs := (([(chr p1), (chr p2)] : List Int32).map (fun c => c.toInt8.toInt32))) (n := 2) gz2917 f2916.2.1 f2920 f2924 f2927 Va2911 (SC.ext f2916.2) PC rfl rfl (by decide) (by decide) (alS (chr_rng _) (alS (chr_rng _) al0)) rfl (by decide) (by decide)) (a := b2903) (argsL := [.ref b2905]) (W := 1) (nk := 1) (ns := 2) (Qc := StrChars.Road.QV Z b2903 (2 : Int32) (([(chr p1), (chr p2)] : List Int32).map (fun c => c.toInt8.toInt32)) h2911 Z.heap.size) (by rw [hml]; rfl) (lenOf pd24 rfl) rfl (Nat.le_of_eq rfl) (hb hby at_299) (q := 302) rfl (by decide) (by decide) ?_
    intro v2913 T2913 L2913 X2913 Q2913
    obtain ⟨rfl, Nq2913, K2913q, E2913q, C2913q, t2913, kb2913, tz2913, tg2913, tn2913, Fv2913, Va2913⟩ := Q2913
    have N2913 := Fr.app N2911 Nq2913
    have Vb2913 : Arv Z T2913.heap t2913 kb2913 .byte (2 : Int32) [(.int (StrChars.lo8 (chr p1))), (.int (StrChars.lo8 (chr p2)))] (.int 0) := Va2913
    show Go _ _ _ _ (T2913.setTop (mkF m 302 #[.val (.int p0), .val (.int p1), .val (.int p2), .val (.int p3), .val (iv 2), .val (.int (chr p1)), .val (.int (chr p2)), .val (.int (chr p3)), .unset, .unset, .unset, .unset] [(.ref b2903)]))
    refine sAw X2913 hx (hb hby at_302) (q := 304) rfl rfl (Ls' := #[.val (.int p0), .val (.int p1), .val (.int p2), .val (.int p3), .val (iv 2), .val (.int (chr p1)), .val (.int (chr p2)), .val (.int (chr p3)), .val (.ref b2903), .unset, .unset, .unset]) rfl ?_
    refine bI X2913 hx (hb hby at_304) (q := 306) rfl (z := (18 : Int32)) rfl ?_
    refine g_newA X2913 hx hZ0 (aty := .char) (wd4 hw) (by decide) (n := 18) (by decide) (by decide) (by decide) (by decide) rfl (hb hby at_306) (q := 308) rfl ?_
    intro T2928 h2928 k2928 b2928 g2928 X2928 e2928 E2928 V2928
    have Va2928 : Arv Z h2928 b2928 k2928 .char (18 : Int32) [(iv 0), (iv 0), (iv 0), (iv 0), (iv 0), (iv 0), (iv 0), (iv 0), (iv 0), (iv 0), (iv 0), (iv 0), (iv 0), (iv 0), (iv 0), (iv 0), (iv 0), (iv 0)] (.int 0) := V2928
    refine g_dup X2928 hx (hb hby at_308) (q := 309) rfl rfl ?_
    refine cI X2928 hx (hb hby at_309) (q := 310) rfl (z := (0 : Int32)) rfl ?_
    refine bI X2928 hx (hb hby at_310) (q := 312) rfl (z := (117 : Int32)) rfl ?_
    have f2931 := f2916.keep K2913q (allS gz2917 all0)
    have gz2930 : Z.heap.size ≤ b2928 := Nat.le_trans f2931.2.1 (Nat.le_of_eq g2928.symm)
    have f2932 := f2912.trans (CHr.wr W2911 (Safe.arv hZ0.alike Va2906 (by decide)) f2912.1)
    have f2933 := Safe.ext E2903 C0.1 sf2904
    have f2934 := Safe.ext E2905 f2909.1 f2933
    have f2935 := Safe.wr W2906 (Safe.arv hZ0.alike Va2905 (by decide)) f2910.1 f2934
    have f2936 := Safe.wr W2911 (Safe.arv hZ0.alike Va2906 (by decide)) f2912.1 f2935
    have f2937 := f2932.trans (CHr.keep K2913q (sfS f2936 sf0) f2932.1)
    have f2938 := f2937.trans (CHr.ext E2928 f2937.1)
    refine g_stC X2928 hx hZ0 Va2928 (i := 0) (by decide) (by decide) (by decide) (Nat.le_of_ble_eq_true rfl) (y := (117 : Int32)) (by decide) e2928 (hb hby at_312) (q := 313) rfl ?_
    intro T2929 h2929 X2929 e2929 W2929 V2929
    have N2929 := Fr.snoc X2929 N2913 gz2930
    have Va2929 : Arv Z h2929 b2928 k2928 .char (18 : Int32) [(iv 117), (iv 0), (iv 0), (iv 0), (iv 0), (iv 0), (iv 0), (iv 0), (iv 0), (iv 0), (iv 0), (iv 0), (iv 0), (iv 0), (iv 0), (iv 0), (iv 0), (iv 0)] (.int 0) := V2929
    refine g_dup X2929 hx (hb hby at_313) (q := 314) rfl rfl ?_
    refine cI X2929 hx (hb hby at_314) (q := 315) rfl (z := (1 : Int32)) rfl ?_
    refine bI X2929 hx (hb hby at_315) (q := 317) rfl (z := (110 : Int32)) rfl ?_
    have f2940 := f2938.trans (CHr.wr W2929 (Safe.arv hZ0.alike Va2928 (by decide)) f2938.1)
    refine g_stC X2929 hx hZ0 Va2929 (i := 1) (by decide) (by decide) (by decide) (Nat.le_of_ble_eq_true rfl) (y := (110 : Int32)) (by decide) e2929 (hb hby at_317) (q := 318) rfl ?_
    intro T2939 h2939 X2939 e2939 W2939 V2939
    have N2939 := Fr.snoc X2939 N2929 gz2930
    have Va2939 : Arv Z h2939 b2928 k2928 .char (18 : Int32) [(iv 117), (iv 110), (iv 0), (iv 0), (iv 0), (iv 0), (iv 0), (iv 0), (iv 0), (iv 0), (iv 0), (iv 0), (iv 0), (iv 0), (iv 0), (iv 0), (iv 0), (iv 0)] (.int 0) := V2939
    refine g_dup X2939 hx (hb hby at_318) (q := 319) rfl rfl ?_
    refine cI X2939 hx (hb hby at_319) (q := 320) rfl (z := (2 : Int32)) rfl ?_
    refine bI X2939 hx (hb hby at_320) (q := 322) rfl (z := (107 : Int32)) rfl ?_
    have f2942 := f2940.trans (CHr.wr W2939 (Safe.arv hZ0.alike Va2929 (by decide)) f2940.1)
    refine g_stC X2939 hx hZ0 Va2939 (i := 2) (by decide) (by decide) (by decide) (Nat.le_of_ble_eq_true rfl) (y := (107 : Int32)) (by decide) e2939 (hb hby at_322) (q := 323) rfl ?_
    intro T2941 h2941 X2941 e2941 W2941 V2941
    have N2941 := Fr.snoc X2941 N2939 gz2930
    have Va2941 : Arv Z h2941 b2928 k2928 .char (18 : Int32) [(iv 117), (iv 110), (iv 107), (iv 0), (iv 0), (iv 0), (iv 0), (iv 0), (iv 0), (iv 0), (iv 0), (iv 0), (iv 0), (iv 0), (iv 0), (iv 0), (iv 0), (iv 0)] (.int 0) := V2941
    refine g_dup X2941 hx (hb hby at_323) (q := 324) rfl rfl ?_
    refine cI X2941 hx (hb hby at_324) (q := 325) rfl (z := (3 : Int32)) rfl ?_
    refine bI X2941 hx (hb hby at_325) (q := 327) rfl (z := (110 : Int32)) rfl ?_
    have f2944 := f2942.trans (CHr.wr W2941 (Safe.arv hZ0.alike Va2939 (by decide)) f2942.1)
    refine g_stC X2941 hx hZ0 Va2941 (i := 3) (by decide) (by decide) (by decide) (Nat.le_of_ble_eq_true rfl) (y := (110 : Int32)) (by decide) e2941 (hb hby at_327) (q := 328) rfl ?_
    intro T2943 h2943 X2943 e2943 W2943 V2943
    have N2943 := Fr.snoc X2943 N2941 gz2930
    have Va2943 : Arv Z h2943 b2928 k2928 .char (18 : Int32) [(iv 117), (iv 110), (iv 107), (iv 110), (iv 0), (iv 0), (iv 0), (iv 0), (iv 0), (iv 0), (iv 0), (iv 0), (iv 0), (iv 0), (iv 0), (iv 0), (iv 0), (iv 0)] (.int 0) := V2943
    refine g_dup X2943 hx (hb hby at_328) (q := 329) rfl rfl ?_
    refine cI X2943 hx (hb hby at_329) (q := 330) rfl (z := (4 : Int32)) rfl ?_
    refine bI X2943 hx (hb hby at_330) (q := 332) rfl (z := (111 : Int32)) rfl ?_
    have f2946 := f2944.trans (CHr.wr W2943 (Safe.arv hZ0.alike Va2941 (by decide)) f2944.1)
    refine g_stC X2943 hx hZ0 Va2943 (i := 4) (by decide) (by decide) (by decide) (Nat.le_of_ble_eq_true rfl) (y := (111 : Int32)) (by decide) e2943 (hb hby at_332) (q := 333) rfl ?_
    intro T2945 h2945 X2945 e2945 W2945 V2945
    have N2945 := Fr.snoc X2945 N2943 gz2930
    have Va2945 : Arv Z h2945 b2928 k2928 .char (18 : Int32) [(iv 117), (iv 110), (iv 107), (iv 110), (iv 111), (iv 0), (iv 0), (iv 0), (iv 0), (iv 0), (iv 0), (iv 0), (iv 0), (iv 0), (iv 0), (iv 0), (iv 0), (iv 0)] (.int 0) := V2945
    refine g_dup X2945 hx (hb hby at_333) (q := 334) rfl rfl ?_
    refine cI X2945 hx (hb hby at_334) (q := 335) rfl (z := (5 : Int32)) rfl ?_
    refine bI X2945 hx (hb hby at_335) (q := 337) rfl (z := (119 : Int32)) rfl ?_
    have f2948 := f2946.trans (CHr.wr W2945 (Safe.arv hZ0.alike Va2943 (by decide)) f2946.1)
    refine g_stC X2945 hx hZ0 Va2945 (i := 5) (by decide) (by decide) (by decide) (Nat.le_of_ble_eq_true rfl) (y := (119 : Int32)) (by decide) e2945 (hb hby at_337) (q := 338) rfl ?_
    intro T2947 h2947 X2947 e2947 W2947 V2947
    have N2947 := Fr.snoc X2947 N2945 gz2930
    have Va2947 : Arv Z h2947 b2928 k2928 .char (18 : Int32) [(iv 117), (iv 110), (iv 107), (iv 110), (iv 111), (iv 119), (iv 0), (iv 0), (iv 0), (iv 0), (iv 0), (iv 0), (iv 0), (iv 0), (iv 0), (iv 0), (iv 0), (iv 0)] (.int 0) := V2947
    refine g_dup X2947 hx (hb hby at_338) (q := 339) rfl rfl ?_
    refine bI X2947 hx (hb hby at_339) (q := 341) rfl (z := (6 : Int32)) rfl ?_
    refine bI X2947 hx (hb hby at_341) (q := 343) rfl (z := (110 : Int32)) rfl ?_
    have f2950 := f2948.trans (CHr.wr W2947 (Safe.arv hZ0.alike Va2945 (by decide)) f2948.1)
    refine g_stC X2947 hx hZ0 Va2947 (i := 6) (by decide) (by decide) (by decide) (Nat.le_of_ble_eq_true rfl) (y := (110 : Int32)) (by decide) e2947 (hb hby at_343) (q := 344) rfl ?_
    intro T2949 h2949 X2949 e2949 W2949 V2949
    have N2949 := Fr.snoc X2949 N2947 gz2930
    have Va2949 : Arv Z h2949 b2928 k2928 .char (18 : Int32) [(iv 117), (iv 110), (iv 107), (iv 110), (iv 111), (iv 119), (iv 110), (iv 0), (iv 0), (iv 0), (iv 0), (iv 0), (iv 0), (iv 0), (iv 0), (iv 0), (iv 0), (iv 0)] (.int 0) := V2949
    refine g_dup X2949 hx (hb hby at_344) (q := 345) rfl rfl ?_
    refine bI X2949 hx (hb hby at_345) (q := 347) rfl (z := (7 : Int32)) rfl ?_
    refine bI X2949 hx (hb hby at_347) (q := 349) rfl (z := (32 : Int32)) rfl ?_
    have f2952 := f2950.trans (CHr.wr W2949 (Safe.arv hZ0.alike Va2947 (by decide)) f2950.1)
    refine g_stC X2949 hx hZ0 Va2949 (i := 7) (by decide) (by decide) (by decide) (Nat.le_of_ble_eq_true rfl) (y := (32 : Int32)) (by decide) e2949 (hb hby at_349) (q := 350) rfl ?_
    intro T2951 h2951 X2951 e2951 W2951 V2951
    have N2951 := Fr.snoc X2951 N2949 gz2930
    have Va2951 : Arv Z h2951 b2928 k2928 .char (18 : Int32) [(iv 117), (iv 110), (iv 107), (iv 110), (iv 111), (iv 119), (iv 110), (iv 32), (iv 0), (iv 0), (iv 0), (iv 0), (iv 0), (iv 0), (iv 0), (iv 0), (iv 0), (iv 0)] (.int 0) := V2951
    refine g_dup X2951 hx (hb hby at_350) (q := 351) rfl rfl ?_
    refine bI X2951 hx (hb hby at_351) (q := 353) rfl (z := (8 : Int32)) rfl ?_
    refine bI X2951 hx (hb hby at_353) (q := 355) rfl (z := (102 : Int32)) rfl ?_
    have f2954 := f2952.trans (CHr.wr W2951 (Safe.arv hZ0.alike Va2949 (by decide)) f2952.1)
    refine g_stC X2951 hx hZ0 Va2951 (i := 8) (by decide) (by decide) (by decide) (Nat.le_of_ble_eq_true rfl) (y := (102 : Int32)) (by decide) e2951 (hb hby at_355) (q := 356) rfl ?_
    intro T2953 h2953 X2953 e2953 W2953 V2953
    have N2953 := Fr.snoc X2953 N2951 gz2930
    have Va2953 : Arv Z h2953 b2928 k2928 .char (18 : Int32) [(iv 117), (iv 110), (iv 107), (iv 110), (iv 111), (iv 119), (iv 110), (iv 32), (iv 102), (iv 0), (iv 0), (iv 0), (iv 0), (iv 0), (iv 0), (iv 0), (iv 0), (iv 0)] (.int 0) := V2953
    refine g_dup X2953 hx (hb hby at_356) (q := 357) rfl rfl ?_
    refine bI X2953 hx (hb hby at_357) (q := 359) rfl (z := (9 : Int32)) rfl ?_
    refine bI X2953 hx (hb hby at_359) (q := 361) rfl (z := (105 : Int32)) rfl ?_
    have f2956 := f2954.trans (CHr.wr W2953 (Safe.arv hZ0.alike Va2951 (by decide)) f2954.1)
    refine g_stC X2953 hx hZ0 Va2953 (i := 9) (by decide) (by decide) (by decide) (Nat.le_of_ble_eq_true rfl) (y := (105 : Int32)) (by decide) e2953 (hb hby at_361) (q := 362) rfl ?_
    intro T2955 h2955 X2955 e2955 W2955 V2955
    have N2955 := Fr.snoc X2955 N2953 gz2930
    have Va2955 : Arv Z h2955 b2928 k2928 .char (18 : Int32) [(iv 117), (iv 110), (iv 107), (iv 110), (iv 111), (iv 119), (iv 110), (iv 32), (iv 102), (iv 105), (iv 0), (iv 0), (iv 0), (iv 0), (iv 0), (iv 0), (iv 0), (iv 0)] (.int 0) := V2955
    refine g_dup X2955 hx (hb hby at_362) (q := 363) rfl rfl ?_
    refine bI X2955 hx (hb hby at_363) (q := 365) rfl (z := (10 : Int32)) rfl ?_
    refine bI X2955 hx (hb hby at_365) (q := 367) rfl (z := (101 : Int32)) rfl ?_
    have f2958 := f2956.trans (CHr.wr W2955 (Safe.arv hZ0.alike Va2953 (by decide)) f2956.1)
    refine g_stC X2955 hx hZ0 Va2955 (i := 10) (by decide) (by decide) (by decide) (Nat.le_of_ble_eq_true rfl) (y := (101 : Int32)) (by decide) e2955 (hb hby at_367) (q := 368) rfl ?_
    intro T2957 h2957 X2957 e2957 W2957 V2957
    have N2957 := Fr.snoc X2957 N2955 gz2930
    have Va2957 : Arv Z h2957 b2928 k2928 .char (18 : Int32) [(iv 117), (iv 110), (iv 107), (iv 110), (iv 111), (iv 119), (iv 110), (iv 32), (iv 102), (iv 105), (iv 101), (iv 0), (iv 0), (iv 0), (iv 0), (iv 0), (iv 0), (iv 0)] (.int 0) := V2957
    refine g_dup X2957 hx (hb hby at_368) (q := 369) rfl rfl ?_
    refine bI X2957 hx (hb hby at_369) (q := 371) rfl (z := (11 : Int32)) rfl ?_
    refine bI X2957 hx (hb hby at_371) (q := 373) rfl (z := (108 : Int32)) rfl ?_
    have f2960 := f2958.trans (CHr.wr W2957 (Safe.arv hZ0.alike Va2955 (by decide)) f2958.1)
    refine g_stC X2957 hx hZ0 Va2957 (i := 11) (by decide) (by decide) (by decide) (Nat.le_of_ble_eq_true rfl) (y := (108 : Int32)) (by decide) e2957 (hb hby at_373) (q := 374) rfl ?_
    intro T2959 h2959 X2959 e2959 W2959 V2959
    have N2959 := Fr.snoc X2959 N2957 gz2930
    have Va2959 : Arv Z h2959 b2928 k2928 .char (18 : Int32) [(iv 117), (iv 110), (iv 107), (iv 110), (iv 111), (iv 119), (iv 110), (iv 32), (iv 102), (iv 105), (iv 101), (iv 108), (iv 0), (iv 0), (iv 0), (iv 0), (iv 0), (iv 0)] (.int 0) := V2959
    refine g_dup X2959 hx (hb hby at_374) (q := 375) rfl rfl ?_
    refine bI X2959 hx (hb hby at_375) (q := 377) rfl (z := (12 : Int32)) rfl ?_
    refine bI X2959 hx (hb hby at_377) (q := 379) rfl (z := (100 : Int32)) rfl ?_
    have f2962 := f2960.trans (CHr.wr W2959 (Safe.arv hZ0.alike Va2957 (by decide)) f2960.1)
    refine g_stC X2959 hx hZ0 Va2959 (i := 12) (by decide) (by decide) (by decide) (Nat.le_of_ble_eq_true rfl) (y := (100 : Int32)) (by decide) e2959 (hb hby at_379) (q := 380) rfl ?_
    intro T2961 h2961 X2961 e2961 W2961 V2961
    have N2961 := Fr.snoc X2961 N2959 gz2930
    have Va2961 : Arv Z h2961 b2928 k2928 .char (18 : Int32) [(iv 117), (iv 110), (iv 107), (iv 110), (iv 111), (iv 119), (iv 110), (iv 32), (iv 102), (iv 105), (iv 101), (iv 108), (iv 100), (iv 0), (iv 0), (iv 0), (iv 0), (iv 0)] (.int 0) := V2961
    refine g_dup X2961 hx (hb hby at_380) (q := 381) rfl rfl ?_
    refine bI X2961 hx (hb hby at_381) (q := 383) rfl (z := (13 : Int32)) rfl ?_
    refine bI X2961 hx (hb hby at_383) (q := 385) rfl (z := (32 : Int32)) rfl ?_
    have f2964 := f2962.trans (CHr.wr W2961 (Safe.arv hZ0.alike Va2959 (by decide)) f2962.1)
    refine g_stC X2961 hx hZ0 Va2961 (i := 13) (by decide) (by decide) (by decide) (Nat.le_of_ble_eq_true rfl) (y := (32 : Int32)) (by decide) e2961 (hb hby at_385) (q := 386) rfl ?_
    intro T2963 h2963 X2963 e2963 W2963 V2963
    have N2963 := Fr.snoc X2963 N2961 gz2930
    have Va2963 : Arv Z h2963 b2928 k2928 .char (18 : Int32) [(iv 117), (iv 110), (iv 107), (iv 110), (iv 111), (iv 119), (iv 110), (iv 32), (iv 102), (iv 105), (iv 101), (iv 108), (iv 100), (iv 32), (iv 0), (iv 0), (iv 0), (iv 0)] (.int 0) := V2963
    refine g_dup X2963 hx (hb hby at_386) (q := 387) rfl rfl ?_
    refine bI X2963 hx (hb hby at_387) (q := 389) rfl (z := (14 : Int32)) rfl ?_
    refine bI X2963 hx (hb hby at_389) (q := 391) rfl (z := (39 : Int32)) rfl ?_
    have f2966 := f2964.trans (CHr.wr W2963 (Safe.arv hZ0.alike Va2961 (by decide)) f2964.1)
    refine g_stC X2963 hx hZ0 Va2963 (i := 14) (by decide) (by decide) (by decide) (Nat.le_of_ble_eq_true rfl) (y := (39 : Int32)) (by decide) e2963 (hb hby at_391) (q := 392) rfl ?_
    intro T2965 h2965 X2965 e2965 W2965 V2965
    have N2965 := Fr.snoc X2965 N2963 gz2930
    have Va2965 : Arv Z h2965 b2928 k2928 .char (18 : Int32) [(iv 117), (iv 110), (iv 107), (iv 110), (iv 111), (iv 119), (iv 110), (iv 32), (iv 102), (iv 105), (iv 101), (iv 108), (iv 100), (iv 32), (iv 39), (iv 0), (iv 0), (iv 0)] (.int 0) := V2965
    refine g_dup X2965 hx (hb hby at_392) (q := 393) rfl rfl ?_
    refine bI X2965 hx (hb hby at_393) (q := 395) rfl (z := (15 : Int32)) rfl ?_
    refine iLw X2965 hx (hb hby at_395) (q := 397) rfl rfl ?_
    have f2968 := f2966.trans (CHr.wr W2965 (Safe.arv hZ0.alike Va2963 (by decide)) f2966.1)
    refine g_stC X2965 hx hZ0 Va2965 (i := 15) (by decide) (by decide) (by decide) (Nat.le_of_ble_eq_true rfl) (y := (chr p1)) (chr_nar _) e2965 (hb hby at_397) (q := 398) rfl ?_
    intro T2967 h2967 X2967 e2967 W2967 V2967
    have N2967 := Fr.snoc X2967 N2965 gz2930
    have Va2967 : Arv Z h2967 b2928 k2928 .char (18 : Int32) [(iv 117), (iv 110), (iv 107), (iv 110), (iv 111), (iv 119), (iv 110), (iv 32), (iv 102), (iv 105), (iv 101), (iv 108), (iv 100), (iv 32), (iv 39), (.int (chr p1)), (iv 0), (iv 0)] (.int 0) := V2967
    refine g_dup X2967 hx (hb hby at_398) (q := 399) rfl rfl ?_
    refine bI X2967 hx (hb hby at_399) (q := 401) rfl (z := (16 : Int32)) rfl ?_
    refine iLw X2967 hx (hb hby at_401) (q := 403) rfl rfl ?_
    have f2970 := f2968.trans (CHr.wr W2967 (Safe.arv hZ0.alike Va2965 (by decide)) f2968.1)
    refine g_stC X2967 hx hZ0 Va2967 (i := 16) (by decide) (by decide) (by decide) (Nat.le_of_ble_eq_true rfl) (y := (chr p2)) (chr_nar _) e2967 (hb hby at_403) (q := 404) rfl ?_
    intro T2969 h2969 X2969 e2969 W2969 V2969
    have N2969 := Fr.snoc X2969 N2967 gz2930
    have Va2969 : Arv Z h2969 b2928 k2928 .char (18 : Int32) [(iv 117), (iv 110), (iv 107), (iv 110), (iv 111), (iv 119), (iv 110), (iv 32), (iv 102), (iv 105), (iv 101), (iv 108), (iv 100), (iv 32), (iv 39), (.int (chr p1)), (.int (chr p2)), (iv 0)] (.int 0) := V2969
    refine g_dup X2969 hx (hb hby at_404) (q := 405) rfl rfl ?_
    refine bI X2969 hx (hb hby at_405) (q := 407) rfl (z := (17 : Int32)) rfl ?_
    refine bI X2969 hx (hb hby at_407) (q := 409) rfl (z := (39 : Int32)) rfl ?_
    have f2972 := f2970.trans (CHr.wr W2969 (Safe.arv hZ0.alike Va2967 (by decide)) f2970.1)
    refine g_stC X2969 hx hZ0 Va2969 (i := 17) (by decide) (by decide) (by decide) (Nat.le_of_ble_eq_true rfl) (y := (39 : Int32)) (by decide) e2969 (hb hby at_409) (q := 410) rfl ?_
    intro T2971 h2971 X2971 e2971 W2971 V2971
    have N2971 := Fr.snoc X2971 N2969 gz2930
    have Va2971 : Arv Z h2971 b2928 k2928 .char (18 : Int32) [(iv 117), (iv 110), (iv 107), (iv 110), (iv 111), (iv 119), (iv 110), (iv 32), (iv 102), (iv 105), (iv 101), (iv 108), (iv 100), (iv 32), (iv 39), (.int (chr p1)), (.int (chr p2)), (iv 39)] (.int 0) := V2971
    refine sAw X2971 hx (hb hby at_410) (q := 412) rfl rfl (Ls' := #[.val (.int p0), .val (.int p1), .val (.int p2), .val (.int p3), .val (iv 2), .val (.int (chr p1)), .val (.int (chr p2)), .val (.int (chr p3)), .val (.ref b2903), .val (.ref b2928), .unset, .unset]) rfl ?_
    refine g_goto X2971 hx (hb hby at_412) (q := 688) (by decide) (by decide) ?_
    refine aLw X2971 hx (hb hby at_688) (q := 690) rfl rfl rfl ?_
    have f3252 := ThS.ext E2903 Th
    have f3253 := ThS.ext E2905 f3252
    have f3254 := ThS.wr W2906 f3253
    have f3255 := ThS.wr W2911 f3254
    have f3256 := ThS.keep K2913q (nsS (Exa.nostat f2920) ns0) f3255
    have f3257 := ThS.ext E2928 f3256
    have f3258 := ThS.wr W2929 f3257
    have f3259 := ThS.wr W2939 f3258
    have f3260 := ThS.wr W2941 f3259
    have f3261 := ThS.wr W2943 f3260
    have f3262 := ThS.wr W2945 f3261
    have f3263 := ThS.wr W2947 f3262
    have f3264 := ThS.wr W2949 f3263
    have f3265 := ThS.wr W2951 f3264
    have f3266 := ThS.wr W2953 f3265
    have f3267 := ThS.wr W2955 f3266
    have f3268 := ThS.wr W2957 f3267
    have f3269 := ThS.wr W2959 f3268
    have f3270 := ThS.wr W2961 f3269
    have f3271 := ThS.wr W2963 f3270
    have f3272 := ThS.wr W2965 f3271
    have f3273 := ThS.wr W2967 f3272
    have f3274 := ThS.wr W2969 f3273
    have f3275 := ThS.wr W2971 f3274
    have f3276 := E2913q.ext E2928
    have f3277 := f3276.wr W2929
    have f3278 := f3277.wr W2939
    have f3279 := f3278.wr W2941
    have f3280 := f3279.wr W2943
    have f3281 := f3280.wr W2945
    have f3282 := f3281.wr W2947
    have f3283 := f3282.wr W2949
    have f3284 := f3283.wr W2951
    have f3285 := f3284.wr W2953
    have f3286 := f3285.wr W2955
    have f3287 := f3286.wr W2957
    have f3288 := f3287.wr W2959
    have f3289 := f3288.wr W2961
    have f3290 := f3289.wr W2963
    have f3291 := f3290.wr W2965
    have f3292 := f3291.wr W2967
    have f3293 := f3292.wr W2969
    have f3294 := f3293.wr W2971
    have f3295 := C2913q.ext E2928
    have le3296 := E2905.1
    have le3297 := (Nat.le_trans le3296 (Nat.le_of_eq (Wr.size W2906).symm))
    have le3298 := (Nat.le_trans le3297 (Nat.le_of_eq (Wr.size W2911).symm))
    have le3299 := (Nat.le_trans le3298 K2913q.1)
    have ne3300 : b2903 ≠ b2928 := (Nat.ne_of_lt (Nat.lt_of_lt_of_le (Nat.lt_of_lt_of_le A2903.lt le3299) (Nat.le_of_eq g2928.symm)))
    have f3301 := f3295.other W2929 (Or.inl ne3300)
    have f3302 := f3301.other W2939 (Or.inl ne3300)
    have f3303 := f3302.other W2941 (Or.inl ne3300)
    have f3304 := f3303.other W2943 (Or.inl ne3300)
    have f3305 := f3304.other W2945 (Or.inl ne3300)
    have f3306 := f3305.other W2947 (Or.inl ne3300)
    have f3307 := f3306.other W2949 (Or.inl ne3300)
    have f3308 := f3307.other W2951 (Or.inl ne3300)
    have f3309 := f3308.other W2953 (Or.inl ne3300)
    have f3310 := f3309.other W2955 (Or.inl ne3300)
    have f3311 := f3310.other W2957 (Or.inl ne3300)
    have f3312 := f3311.other W2959 (Or.inl ne3300)
    have f3313 := f3312.other W2961 (Or.inl ne3300)
    have f3314 := f3313.other W2963 (Or.inl ne3300)
    have f3315 := f3314.other W2965 (Or.inl ne3300)
    have f3316 := f3315.other W2967 (Or.inl ne3300)
    have f3317 := f3316.other W2969 (Or.inl ne3300)
    have f3318 := f3317.other W2971 (Or.inl ne3300)
    have f3319 := Fv2913.ext E2928
    have f3320 := f3319.other W2929 (Or.inl ne3300)
    have f3321 := f3320.other W2939 (Or.inl ne3300)
    have f3322 := f3321.other W2941 (Or.inl ne3300)
    have f3323 := f3322.other W2943 (Or.inl ne3300)
    have f3324 := f3323.other W2945 (Or.inl ne3300)
    have f3325 := f3324.other W2947 (Or.inl ne3300)
    have f3326 := f3325.other W2949 (Or.inl ne3300)
    have f3327 := f3326.other W2951 (Or.inl ne3300)
    have f3328 := f3327.other W2953 (Or.inl ne3300)
    have f3329 := f3328.other W2955 (Or.inl ne3300)
    have f3330 := f3329.other W2957 (Or.inl ne3300)
    have f3331 := f3330.other W2959 (Or.inl ne3300)
    have f3332 := f3331.other W2961 (Or.inl ne3300)
    have f3333 := f3332.other W2963 (Or.inl ne3300)
    have f3334 := f3333.other W2965 (Or.inl ne3300)
    have f3335 := f3334.other W2967 (Or.inl ne3300)
    have f3336 := f3335.other W2969 (Or.inl ne3300)
    have f3337 := f3336.other W2971 (Or.inl ne3300)
    have f3338 := Vb2913.ext E2928
    have ne3339 : t2913 ≠ b2928 := (Nat.ne_of_lt (Nat.lt_of_lt_of_le (Nat.lt_of_lt_of_le Vb2913.lt (Nat.le_refl _)) (Nat.le_of_eq g2928.symm)))
    have f3340 := f3338.other W2929 ne3339
    have f3341 := f3340.other W2939 ne3339
    have f3342 := f3341.other W2941 ne3339
    have f3343 := f3342.other W2943 ne3339
    have f3344 := f3343.other W2945 ne3339
    have f3345 := f3344.other W2947 ne3339
    have f3346 := f3345.other W2949 ne3339
    have f3347 := f3346.other W2951 ne3339
    have f3348 := f3347.other W2953 ne3339
    have f3349 := f3348.other W2955 ne3339
    have f3350 := f3349.other W2957 ne3339
    have f3351 := f3350.other W2959 ne3339
    have f3352 := f3351.other W2961 ne3339
    have f3353 := f3352.other W2963 ne3339
    have f3354 := f3353.other W2965 ne3339
    have f3355 := f3354.other W2967 ne3339
    have f3356 := f3355.other W2969 ne3339
    have f3357 := f3356.other W2971 ne3339
    have f3358 := f2931.ext E2928
    have f3359 := f3358.wr W2929 gz2930
    have f3360 := f3359.wr W2939 gz2930
    have f3361 := f3360.wr W2941 gz2930
    have f3362 := f3361.wr W2943 gz2930
    have f3363 := f3362.wr W2945 gz2930
    have f3364 := f3363.wr W2947 gz2930
    have f3365 := f3364.wr W2949 gz2930
    have f3366 := f3365.wr W2951 gz2930
    have f3367 := f3366.wr W2953 gz2930
    have f3368 := f3367.wr W2955 gz2930
    have f3369 := f3368.wr W2957 gz2930
    have f3370 := f3369.wr W2959 gz2930
    have f3371 := f3370.wr W2961 gz2930
    have f3372 := f3371.wr W2963 gz2930
    have f3373 := f3372.wr W2965 gz2930
    have f3374 := f3373.wr W2967 gz2930
    have f3375 := f3374.wr W2969 gz2930
    have f3376 := f3375.wr W2971 gz2930
    have f3377 := f2972.trans (CHr.wr W2971 (Safe.arv hZ0.alike Va2969 (by decide)) f2972.1)
    refine g_stS X2971 hx hZ0 hown0 hS0 (Nat.zero_le _) (wd23 hw) (wd24 hw) (wd25 hw) (wd26 hw) (by decide) e2971 (ConK.back (W := 0) (rm_uf2 l Z a0 hw hl zC SC PC hX b2903 t2913 kb2913 (StrChars.lo8 (chr p1)) (StrChars.lo8 (chr p2)) h2971 f3376 f3275 f3294 f3318 f3337 f3357) hZ0 (wd26 hw) (wd25 hw) (by decide) (by decide) (own_EW hw) f3377.1 sf0 all0 (Vm.MethodsKnown.alikeC (hZ0.alike.symm.trans hZ0.alike) hTK0) (Vm.FramesKnown.alikeC (hZ0.alike.symm.trans hZ0.alike) hBF0)) (by rw [hml]; rfl) (lenOf pd25 rfl) rfl (Nat.le_of_eq rfl) (hb hby at_690) (q := 693) rfl (by decide) (by decide) ?_
    rintro v3251 T3251 L3251 ⟨X3251, hS3251, hZ3251, hown3251, R3251⟩ Q3251
    obtain ⟨r_3251, m_3251, c_3251, kc_3251, rfl, Nq3251, K3251q, q3251_0, q3251_1, q3251_2, q3251_3, q3251_4, q3251_5, q3251_6⟩ := Q3251
    have N3251 := Fr.app N2971 Nq3251
    show Go _ _ _ _ (T3251.setTop (mkF m 693 #[.val (.int p0), .val (.int p1), .val (.int p2), .val (.int p3), .val (iv 2), .val (.int (chr p1)), .val (.int (chr p2)), .val (.int (chr p3)), .val (.ref b2903), .val (.ref b2928), .unset, .unset] [(.ref r_3251)]))
    refine sAw X3251 hx (hb hby at_693) (q := 695) rfl rfl (Ls' := #[.val (.int p0), .val (.int p1), .val (.int p2), .val (.int p3), .val (iv 2), .val (.int (chr p1)), .val (.int (chr p2)), .val (.int (chr p3)), .val (.ref b2903), .val (.ref b2928), .val (.ref r_3251), .unset]) rfl ?_
    refine aLw X3251 hx (hb hby at_695) (q := 697) rfl rfl rfl ?_
    refine nnY X3251 hx (hb hby at_697) (q := 702) (by decide) (by decide) ?_
    refine aLw X3251 hx (hb hby at_702) (q := 704) rfl rfl rfl ?_
    have f3379 := f3376.keep K3251q all0
    refine g_vu X3251 hx hZ3251 hown3251 (wd207 hw) (wd208 hw) (wd209 hw) (by decide) (wd211 hw) (wd210 hw) q3251_1 rfl (Con.back (W := 0) (rm_gmsg l Z a0 hw hl zC SC PC hX r_3251 m_3251 T3251.heap f3379 q3251_2) hZ3251 (wd212 hw) (wd168 hw) (by decide) (by decide)) (by rw [hml]; rfl) (lenOf pd19 rfl) rfl (Nat.le_of_eq rfl) (hb hby at_704) (q := 707) rfl (by decide) (by decide) ?_
    intro v3378 T3378 L3378 X3378 Q3378
    obtain ⟨rfl, Nq3378, e3378⟩ := Q3378
    have N3378 := Fr.app N3251 Nq3378
    show Go _ _ _ _ (T3378.setTop (mkF m 707 #[.val (.int p0), .val (.int p1), .val (.int p2), .val (.int p3), .val (iv 2), .val (.int (chr p1)), .val (.int (chr p2)), .val (.int (chr p3)), .val (.ref b2903), .val (.ref b2928), .val (.ref r_3251), .unset] [(.ref m_3251)]))
    refine sAw X3378 hx (hb hby at_707) (q := 709) rfl rfl (Ls' := #[.val (.int p0), .val (.int p1), .val (.int p2), .val (.int p3), .val (iv 2), .val (.int (chr p1)), .val (.int (chr p2)), .val (.int (chr p3)), .val (.ref b2903), .val (.ref b2928), .val (.ref r_3251), .val (.ref m_3251)]) rfl ?_
    refine aLw X3378 hx (hb hby at_709) (q := 711) rfl rfl rfl ?_
    refine nlN X3378 hx (hb hby at_711) (q := 714) rfl ?_
    refine aLw X3378 hx (hb hby at_714) (q := 716) rfl rfl rfl ?_
    refine g_new X3378 hx hZ3251 hown3251 (wd1 hw) (wd2 hw) (wd3 hw) (by decide) (by decide) e3378 (hb hby at_716) (q := 719) rfl ?_
    intro T3380 h3380 b3380 g3380 X3380 e3380 E3380 A3380 D3380
    have sf3381 : Safe Z EL T3251.vm T3251.heap b3380 := Safe.new (Nat.le_of_eq g3380.symm)
    have F3380_17 := D3380 (Or.inr (wd17 hw)) (ty := (.array .byte)) (by decide)
    have F3380_18 := D3380 (Or.inr (wd18 hw)) (ty := .byte) (by decide)
    refine g_dup X3380 hx (hb hby at_719) (q := 720) rfl rfl ?_
    refine aLw X3380 hx (hb hby at_720) (q := 722) rfl rfl rfl ?_
    have f3383 := f3379.ext E3380
    have gz3384 : Z.heap.size ≤ b3380 := Nat.le_trans f3379.2.1 (Nat.le_of_eq g3380.symm)
    have f3385 := Va2971.keep K3251q nin0
    have f3386 := f3385.ext E3380
    refine g_sp X3380 hx hZ3251 hown3251 (wd5 hw) (wd6 hw) (wd7 hw) rfl (by decide) e3380 (StrChars.Road.backV (s := (s.setVm T3251.vm)) (W := 2) hZ3251 (own_wStr hw) (kI := 4) (wd2 hw) (cs := ([(117 : Int32), (110 : Int32), (107 : Int32), (110 : Int32), (111 : Int32), (119 : Int32), (110 : Int32), (32 : Int32), (102 : Int32), (105 : Int32), (101 : Int32), (108 : Int32), (100 : Int32), (32 : Int32), (39 : Int32), (chr p1), (chr p2), (39 : Int32)] : List Int32)) (bs := (([(117 : Int32), (110 : Int32), (107 : Int32), (110 : Int32), (111 : Int32), (119 : Int32), (110 : Int32), (32 : Int32), (102 : Int32), (105 : Int32), (101 : Int32), (108 : Int32), (100 : Int32), (32 : Int32), (39 : Int32), (chr p1), (chr p2), (39 : Int32)] : List Int32).map (fun c => c.toInt8.toInt32))) (n := 18) gz3384 f3383.2.1 A3380 F3380_17 F3380_18 f3386 (SC.ext f3383.2) PC rfl rfl (by decide) (by decide) (alS lr117 (alS lr110 (alS lr107 (alS lr110 (alS lr111 (alS lr119 (alS lr110 (alS lr32 (alS lr102 (alS lr105 (alS lr101 (alS lr108 (alS lr100 (alS lr32 (alS lr39 (alS (chr_rng _) (alS (chr_rng _) (alS lr39 al0)))))))))))))))))) rfl (by decide) (by decide)) (a := b3380) (argsL := [.ref b2928]) (W := 2) (nk := 1) (ns := 18) (Qc := StrChars.Road.QV Z b3380 (18 : Int32) (([(117 : Int32), (110 : Int32), (107 : Int32), (110 : Int32), (111 : Int32), (119 : Int32), (110 : Int32), (32 : Int32), (102 : Int32), (105 : Int32), (101 : Int32), (108 : Int32), (100 : Int32), (32 : Int32), (39 : Int32), (chr p1), (chr p2), (39 : Int32)] : List Int32).map (fun c => c.toInt8.toInt32)) h3380 Z.heap.size) (by rw [hml]; rfl) (lenOf pd24 rfl) rfl (Nat.le_of_eq rfl) (hb hby at_722) (q := 725) rfl (by decide) (by decide) ?_
    intro v3382 T3382 L3382 X3382 Q3382
    obtain ⟨rfl, Nq3382, K3382q, E3382q, C3382q, t3382, kb3382, tz3382, tg3382, tn3382, Fv3382, Va3382⟩ := Q3382
    have N3382 := Fr.app N3378 Nq3382
    have Vb3382 : Arv Z T3382.heap t3382 kb3382 .byte (18 : Int32) [(iv 117), (iv 110), (iv 107), (iv 110), (iv 111), (iv 119), (iv 110), (iv 32), (iv 102), (iv 105), (iv 101), (iv 108), (iv 100), (iv 32), (iv 39), (.int (StrChars.lo8 (chr p1))), (.int (StrChars.lo8 (chr p2))), (iv 39)] (.int 0) := Va3382
    show Go _ _ _ _ (T3382.setTop (mkF m 725 #[.val (.int p0), .val (.int p1), .val (.int p2), .val (.int p3), .val (iv 2), .val (.int (chr p1)), .val (.int (chr p2)), .val (.int (chr p3)), .val (.ref b2903), .val (.ref b2928), .val (.ref r_3251), .val (.ref m_3251)] [(.ref b3380), (.ref m_3251)]))
    have f3398 := q3251_3.ext E3380
    have f3399 := f3398.keep K3382q
    have f3400 := q3251_4.ext E3380
    have ne3401 : m_3251 ≠ b3380 := (Nat.ne_of_lt (Nat.lt_of_lt_of_le (Nat.lt_of_lt_of_le q3251_3.lt (Nat.le_refl _)) (Nat.le_of_eq g3380.symm)))
    have f3402 := f3400.keep K3382q (ninS ne3401 nin0)
    have f3403 := q3251_5.ext E3380
    have f3404 := f3403.keep K3382q (ninS ne3401 nin0)
    have f3405 := q3251_6.ext E3380
    have ne3406 : c_3251 ≠ b3380 := (Nat.ne_of_lt (Nat.lt_of_lt_of_le (Nat.lt_of_lt_of_le q3251_6.lt (Nat.le_refl _)) (Nat.le_of_eq g3380.symm)))
    have f3407 := f3405.keep K3382q (ninS ne3406 nin0)
    have f3408 := f3383.keep K3382q (allS gz3384 all0)
    refine g_vi X3382 hx hZ3251 hown3251 (wd223 hw) (wd224 hw) (notFace_of_selects (args := #[]) (mvT hZ3251 (wd226 hw))) (wd226 hw) (wd225 hw) (by decide) f3399 rfl (Con.back (W := 0) (rm_seq l Z a0 hw hl zC SC PC hX m_3251 c_3251 kc_3251 b3380 t3382 kb3382 (18 : Int32) [(iv 117), (iv 110), (iv 107), (iv 110), (iv 111), (iv 119), (iv 110), (iv 32), (iv 102), (iv 105), (iv 101), (iv 108), (iv 100), (iv 32), (iv 39), (.int (StrChars.lo8 (chr p1))), (.int (StrChars.lo8 (chr p2))), (iv 39)] T3382.heap f3408 f3399 f3402 f3404 f3407 E3382q C3382q Fv3382 Vb3382 ne3401) hZ3251 (wd227 hw) (wd3 hw) (by decide) (by decide)) (by rw [hml]; rfl) (lenOf pd26 rfl) rfl (Nat.le_of_eq rfl) (hb hby at_725) (q := 728) rfl (by decide) (by decide) ?_
    intro v3397 T3397 L3397 X3397 Q3397
    obtain ⟨rfl, Nq3397, e3397⟩ := Q3397
    have N3397 := Fr.app N3382 Nq3397
    show Go _ _ _ _ (T3397.setTop (mkF m 728 #[.val (.int p0), .val (.int p1), .val (.int p2), .val (.int p3), .val (iv 2), .val (.int (chr p1)), .val (.int (chr p2)), .val (.int (chr p3)), .val (.ref b2903), .val (.ref b2928), .val (.ref r_3251), .val (.ref m_3251)] [(iv 1)]))
    refine ifN X3397 hx (hb hby at_728) (q := 731) rfl (by decide) ?_
    refine cI X3397 hx (hb hby at_731) (q := 732) rfl (z := (1 : Int32)) rfl ?_
    refine g_goto X3397 hx (hb hby at_732) (q := 736) (by decide) (by decide) ?_
    have le3409 := E3380.1
    have le3410 := (Nat.le_trans le3409 K3382q.1)
    have f3411 := f3377.trans R3251
    have f3412 := f3411.trans (CHr.ext E3380 f3411.1)
    have f3413 := Safe.ext E3380 f3411.1 sf3381
    have f3414 := f3412.trans (CHr.keep K3382q (sfS f3413 sf0) f3412.1)
    refine endC X3397 hlk hS3251 (by rw [e3397]; exact (Nat.le_trans (Nat.le_refl _) le3410)) hZ3251 (own_EW hw) (by rw [e3397]; exact f3414) (fun h => by rw [hret] at h; cases h) (lastN X3397 hx (t := .boolean) (z' := (1 : Int32)) hret (by simp) (by decide) (hb hby at_736)) ?_ (by decide) (by decide)
    rw [e3397]
    exact ⟨rfl, N3397, trivial⟩
  · rw [hk2192]
    show Go _ _ _ _ (T0.setTop (mkF m 6 #[.val (.int p0), .val (.int p1), .val (.int p2), .val (.int p3), .unset, .unset, .unset, .unset, .unset, .unset, .unset, .unset] [(iv 3)]))
    refine sIw X0 hx (hb hby at_6) (q := 8) rfl (Ls' := #[.val (.int p0), .val (.int p1), .val (.int p2), .val (.int p3), .val (iv 3), .unset, .unset, .unset, .unset, .unset, .unset, .unset]) rfl ?_
    refine iL X0 hx (hb hby at_8) (q := 9) rfl rfl ?_
    refine pI X0 hx (hb hby at_9) (q := 12) rfl (z := (255 : Int32)) rfl ?_
    refine g_iand X0 hx (hb hby at_12) (q := 13) rfl rfl ?_
    refine g_i2c X0 hx (hb hby at_13) (q := 14) rfl (z := (chr p1)) rfl ?_
    refine sIw X0 hx (hb hby at_14) (q := 16) rfl (Ls' := #[.val (.int p0), .val (.int p1), .val (.int p2), .val (.int p3), .val (iv 3), .val (.int (chr p1)), .unset, .unset, .unset, .unset, .unset, .unset]) rfl ?_
    refine iL X0 hx (hb hby at_16) (q := 17) rfl rfl ?_
    refine pI X0 hx (hb hby at_17) (q := 20) rfl (z := (255 : Int32)) rfl ?_
    refine g_iand X0 hx (hb hby at_20) (q := 21) rfl rfl ?_
    refine g_i2c X0 hx (hb hby at_21) (q := 22) rfl (z := (chr p2)) rfl ?_
    refine sIw X0 hx (hb hby at_22) (q := 24) rfl (Ls' := #[.val (.int p0), .val (.int p1), .val (.int p2), .val (.int p3), .val (iv 3), .val (.int (chr p1)), .val (.int (chr p2)), .unset, .unset, .unset, .unset, .unset]) rfl ?_
    refine iL X0 hx (hb hby at_24) (q := 25) rfl rfl ?_
    refine pI X0 hx (hb hby at_25) (q := 28) rfl (z := (255 : Int32)) rfl ?_
    refine g_iand X0 hx (hb hby at_28) (q := 29) rfl rfl ?_
    refine g_i2c X0 hx (hb hby at_29) (q := 30) rfl (z := (chr p3)) rfl ?_
    refine sIw X0 hx (hb hby at_30) (q := 32) rfl (Ls' := #[.val (.int p0), .val (.int p1), .val (.int p2), .val (.int p3), .val (iv 3), .val (.int (chr p1)), .val (.int (chr p2)), .val (.int (chr p3)), .unset, .unset, .unset, .unset]) rfl ?_
    refine iLw X0 hx (hb hby at_32) (q := 34) rfl rfl ?_
    refine ifY X0 hx (hb hby at_34) (q := 148) (by decide) (by decide) (by decide) ?_
    refine iLw X0 hx (hb hby at_148) (q := 150) rfl rfl ?_
    refine cI X0 hx (hb hby at_150) (q := 151) rfl (z := (1 : Int32)) rfl ?_
    refine icY X0 hx (hb hby at_151) (q := 276) (by decide) (by decide) (by decide) ?_
    refine iLw X0 hx (hb hby at_276) (q := 278) rfl rfl ?_
    refine cI X0 hx (hb hby at_278) (q := 279) rfl (z := (2 : Int32)) rfl ?_
    refine icY X0 hx (hb hby at_279) (q := 415) (by decide) (by decide) (by decide) ?_
    refine iLw X0 hx (hb hby at_415) (q := 417) rfl rfl ?_
    refine cI X0 hx (hb hby at_417) (q := 418) rfl (z := (3 : Int32)) rfl ?_
    refine icN X0 hx (hb hby at_418) (q := 421) rfl (by decide) ?_
    refine g_new X0 hx hZ0 hown0 (wd1 hw) (wd2 hw) (wd3 hw) (by decide) (by decide) e0 (hb hby at_421) (q := 424) rfl ?_
    intro T3415 h3415 b3415 g3415 X3415 e3415 E3415 A3415 D3415
    have sf3416 : Safe Z EL v0 h0 b3415 := Safe.new (Nat.le_of_eq g3415.symm)
    have F3415_17 := D3415 (Or.inr (wd17 hw)) (ty := (.array .byte)) (by decide)
    have F3415_18 := D3415 (Or.inr (wd18 hw)) (ty := .byte) (by decide)
    refine g_dup X3415 hx (hb hby at_424) (q := 425) rfl rfl ?_
    refine cI X3415 hx (hb hby at_425) (q := 426) rfl (z := (3 : Int32)) rfl ?_
    refine g_newA X3415 hx hZ0 (aty := .char) (wd4 hw) (by decide) (n := 3) (by decide) (by decide) (by decide) (by decide) e3415 (hb hby at_426) (q := 428) rfl ?_
    intro T3417 h3417 k3417 b3417 g3417 X3417 e3417 E3417 V3417
    have Va3417 : Arv Z h3417 b3417 k3417 .char (3 : Int32) [(iv 0), (iv 0), (iv 0)] (.int 0) := V3417
    refine g_dup X3417 hx (hb hby at_428) (q := 429) rfl rfl ?_
    refine cI X3417 hx (hb hby at_429) (q := 430) rfl (z := (0 : Int32)) rfl ?_
    refine iLw X3417 hx (hb hby at_430) (q := 432) rfl rfl ?_
    have f3420 := O0.ext E3415
    have gz3419 : Z.heap.size ≤ b3417 := Nat.le_trans f3420.2.1 (Nat.le_of_eq g3417.symm)
    have f3421 := C0.trans (CHr.ext E3415 C0.1)
    have f3422 := f3421.trans (CHr.ext E3417 f3421.1)
    refine g_stC X3417 hx hZ0 Va3417 (i := 0) (by decide) (by decide) (by decide) (Nat.le_of_ble_eq_true rfl) (y := (chr p1)) (chr_nar _) e3417 (hb hby at_432) (q := 433) rfl ?_
    intro T3418 h3418 X3418 e3418 W3418 V3418
    have N3418 := Fr.snoc X3418 N0 gz3419
    have Va3418 : Arv Z h3418 b3417 k3417 .char (3 : Int32) [(.int (chr p1)), (iv 0), (iv 0)] (.int 0) := V3418
    refine g_dup X3418 hx (hb hby at_433) (q := 434) rfl rfl ?_
    refine cI X3418 hx (hb hby at_434) (q := 435) rfl (z := (1 : Int32)) rfl ?_
    refine iLw X3418 hx (hb hby at_435) (q := 437) rfl rfl ?_
    have f3424 := f3422.trans (CHr.wr W3418 (Safe.arv hZ0.alike Va3417 (by decide)) f3422.1)
    refine g_stC X3418 hx hZ0 Va3418 (i := 1) (by decide) (by decide) (by decide) (Nat.le_of_ble_eq_true rfl) (y := (chr p2)) (chr_nar _) e3418 (hb hby at_437) (q := 438) rfl ?_
    intro T3423 h3423 X3423 e3423 W3423 V3423
    have N3423 := Fr.snoc X3423 N3418 gz3419
    have Va3423 : Arv Z h3423 b3417 k3417 .char (3 : Int32) [(.int (chr p1)), (.int (chr p2)), (iv 0)] (.int 0) := V3423
    refine g_dup X3423 hx (hb hby at_438) (q := 439) rfl rfl ?_
    refine cI X3423 hx (hb hby at_439) (q := 440) rfl (z := (2 : Int32)) rfl ?_
    refine iLw X3423 hx (hb hby at_440) (q := 442) rfl rfl ?_
    have f3426 := f3424.trans (CHr.wr W3423 (Safe.arv hZ0.alike Va3418 (by decide)) f3424.1)
    refine g_stC X3423 hx hZ0 Va3423 (i := 2) (by decide) (by decide) (by decide) (Nat.le_of_ble_eq_true rfl) (y := (chr p3)) (chr_nar _) e3423 (hb hby at_442) (q := 443) rfl ?_
    intro T3425 h3425 X3425 e3425 W3425 V3425
    have N3425 := Fr.snoc X3425 N3423 gz3419
    have Va3425 : Arv Z h3425 b3417 k3417 .char (3 : Int32) [(.int (chr p1)), (.int (chr p2)), (.int (chr p3))] (.int 0) := V3425
    have f3428 := f3420.ext E3417
    have f3429 := f3428.wr W3418 gz3419
    have f3430 := f3429.wr W3423 gz3419
    have f3431 := f3430.wr W3425 gz3419
    have gz3432 : Z.heap.size ≤ b3415 := Nat.le_trans O0.2.1 (Nat.le_of_eq g3415.symm)
    have f3433 := A3415.ext E3417
    have f3434 := f3433.wr W3418
    have f3435 := f3434.wr W3423
    have f3436 := f3435.wr W3425
    have f3437 := F3415_17.ext E3417
    have ne3438 : b3415 ≠ b3417 := (Nat.ne_of_lt (Nat.lt_of_lt_of_le (Nat.lt_of_lt_of_le A3415.lt (Nat.le_refl _)) (Nat.le_of_eq g3417.symm)))
    have f3439 := f3437.other W3418 (Or.inl ne3438)
    have f3440 := f3439.other W3423 (Or.inl ne3438)
    have f3441 := f3440.other W3425 (Or.inl ne3438)
    have f3442 := F3415_18.ext E3417
    have f3443 := f3442.other W3418 (Or.inl ne3438)
    have f3444 := f3443.other W3423 (Or.inl ne3438)
    have f3445 := f3444.other W3425 (Or.inl ne3438)
    refine g_sp X3425 hx hZ0 hown0 (wd5 hw) (wd6 hw) (wd7 hw) rfl (by decide) e3425 (StrChars.Road.backV (s := (s.setVm v0)) (W := 1) hZ0 (own_wStr hw) (kI := 4) (wd2 hw) (cs := ([(chr p1), (chr p2), (chr p3)] : List Int32)) (bs := (([(chr p1), (chr p2), (chr p3)] : List Int32).map (fun c => c.toInt8.toInt32))) (n := 3) gz3432 f3431.2.1 f3436 f3441 f3445 Va3425 (SC.ext f3431.2) PC rfl rfl (by decide) (by decide) (alS (chr_rng _) (alS (chr_rng _) (alS (chr_rng _) al0))) rfl (by decide) (by decide)) (a := b3415) (argsL := [.ref b3417]) (W := 1) (nk := 1) (ns := 3) (Qc := StrChars.Road.QV Z b3415 (3 : Int32) (([(chr p1), (chr p2), (chr p3)] : List Int32).map (fun c => c.toInt8.toInt32)) h3425 Z.heap.size) (by rw [hml]; rfl) (lenOf pd24 rfl) rfl (Nat.le_of_eq rfl) (hb hby at_443) (q := 446) rfl (by decide) (by decide) ?_
    intro v3427 T3427 L3427 X3427 Q3427
    obtain ⟨rfl, Nq3427, K3427q, E3427q, C3427q, t3427, kb3427, tz3427, tg3427, tn3427, Fv3427, Va3427⟩ := Q3427
    have N3427 := Fr.app N3425 Nq3427
    have Vb3427 : Arv Z T3427.heap t3427 kb3427 .byte (3 : Int32) [(.int (StrChars.lo8 (chr p1))), (.int (StrChars.lo8 (chr p2))), (.int (StrChars.lo8 (chr p3)))] (.int 0) := Va3427
    show Go _ _ _ _ (T3427.setTop (mkF m 446 #[.val (.int p0), .val (.int p1), .val (.int p2), .val (.int p3), .val (iv 3), .val (.int (chr p1)), .val (.int (chr p2)), .val (.int (chr p3)), .unset, .unset, .unset, .unset] [(.ref b3415)]))
    refine sAw X3427 hx (hb hby at_446) (q := 448) rfl rfl (Ls' := #[.val (.int p0), .val (.int p1), .val (.int p2), .val (.int p3), .val (iv 3), .val (.int (chr p1)), .val (.int (chr p2)), .val (.int (chr p3)), .val (.ref b3415), .unset, .unset, .unset]) rfl ?_
    refine bI X3427 hx (hb hby at_448) (q := 450) rfl (z := (19 : Int32)) rfl ?_
    refine g_newA X3427 hx hZ0 (aty := .char) (wd4 hw) (by decide) (n := 19) (by decide) (by decide) (by decide) (by decide) rfl (hb hby at_450) (q := 452) rfl ?_
    intro T3446 h3446 k3446 b3446 g3446 X3446 e3446 E3446 V3446
    have Va3446 : Arv Z h3446 b3446 k3446 .char (19 : Int32) [(iv 0), (iv 0), (iv 0), (iv 0), (iv 0), (iv 0), (iv 0), (iv 0), (iv 0), (iv 0), (iv 0), (iv 0), (iv 0), (iv 0), (iv 0), (iv 0), (iv 0), (iv 0), (iv 0)] (.int 0) := V3446
    refine g_dup X3446 hx (hb hby at_452) (q := 453) rfl rfl ?_
    refine cI X3446 hx (hb hby at_453) (q := 454) rfl (z := (0 : Int32)) rfl ?_
    refine bI X3446 hx (hb hby at_454) (q := 456) rfl (z := (117 : Int32)) rfl ?_
    have f3449 := f3431.keep K3427q (allS gz3432 all0)
    have gz3448 : Z.heap.size ≤ b3446 := Nat.le_trans f3449.2.1 (Nat.le_of_eq g3446.symm)
    have f3450 := f3426.trans (CHr.wr W3425 (Safe.arv hZ0.alike Va3423 (by decide)) f3426.1)
    have f3451 := Safe.ext E3415 C0.1 sf3416
    have f3452 := Safe.ext E3417 f3421.1 f3451
    have f3453 := Safe.wr W3418 (Safe.arv hZ0.alike Va3417 (by decide)) f3422.1 f3452
    have f3454 := Safe.wr W3423 (Safe.arv hZ0.alike Va3418 (by decide)) f3424.1 f3453
    have f3455 := Safe.wr W3425 (Safe.arv hZ0.alike Va3423 (by decide)) f3426.1 f3454
    have f3456 := f3450.trans (CHr.keep K3427q (sfS f3455 sf0) f3450.1)
    have f3457 := f3456.trans (CHr.ext E3446 f3456.1)
    refine g_stC X3446 hx hZ0 Va3446 (i := 0) (by decide) (by decide) (by decide) (Nat.le_of_ble_eq_true rfl) (y := (117 : Int32)) (by decide) e3446 (hb hby at_456) (q := 457) rfl ?_
    intro T3447 h3447 X3447 e3447 W3447 V3447
    have N3447 := Fr.snoc X3447 N3427 gz3448
    have Va3447 : Arv Z h3447 b3446 k3446 .char (19 : Int32) [(iv 117), (iv 0), (iv 0), (iv 0), (iv 0), (iv 0), (iv 0), (iv 0), (iv 0), (iv 0), (iv 0), (iv 0), (iv 0), (iv 0), (iv 0), (iv 0), (iv 0), (iv 0), (iv 0)] (.int 0) := V3447
    refine g_dup X3447 hx (hb hby at_457) (q := 458) rfl rfl ?_
    refine cI X3447 hx (hb hby at_458) (q := 459) rfl (z := (1 : Int32)) rfl ?_
    refine bI X3447 hx (hb hby at_459) (q := 461) rfl (z := (110 : Int32)) rfl ?_
    have f3459 := f3457.trans (CHr.wr W3447 (Safe.arv hZ0.alike Va3446 (by decide)) f3457.1)
    refine g_stC X3447 hx hZ0 Va3447 (i := 1) (by decide) (by decide) (by decide) (Nat.le_of_ble_eq_true rfl) (y := (110 : Int32)) (by decide) e3447 (hb hby at_461) (q := 462) rfl ?_
    intro T3458 h3458 X3458 e3458 W3458 V3458
    have N3458 := Fr.snoc X3458 N3447 gz3448
    have Va3458 : Arv Z h3458 b3446 k3446 .char (19 : Int32) [(iv 117), (iv 110), (iv 0), (iv 0), (iv 0), (iv 0), (iv 0), (iv 0), (iv 0), (iv 0), (iv 0), (iv 0), (iv 0), (iv 0), (iv 0), (iv 0), (iv 0), (iv 0), (iv 0)] (.int 0) := V3458
    refine g_dup X3458 hx (hb hby at_462) (q := 463) rfl rfl ?_
    refine cI X3458 hx (hb hby at_463) (q := 464) rfl (z := (2 : Int32)) rfl ?_
    refine bI X3458 hx (hb hby at_464) (q := 466) rfl (z := (107 : Int32)) rfl ?_
    have f3461 := f3459.trans (CHr.wr W3458 (Safe.arv hZ0.alike Va3447 (by decide)) f3459.1)
    refine g_stC X3458 hx hZ0 Va3458 (i := 2) (by decide) (by decide) (by decide) (Nat.le_of_ble_eq_true rfl) (y := (107 : Int32)) (by decide) e3458 (hb hby at_466) (q := 467) rfl ?_
    intro T3460 h3460 X3460 e3460 W3460 V3460
    have N3460 := Fr.snoc X3460 N3458 gz3448
    have Va3460 : Arv Z h3460 b3446 k3446 .char (19 : Int32) [(iv 117), (iv 110), (iv 107), (iv 0), (iv 0), (iv 0), (iv 0), (iv 0), (iv 0), (iv 0), (iv 0), (iv 0), (iv 0), (iv 0), (iv 0), (iv 0), (iv 0), (iv 0), (iv 0)] (.int 0) := V3460
    refine g_dup X3460 hx (hb hby at_467) (q := 468) rfl rfl ?_
    refine cI X3460 hx (hb hby at_468) (q := 469) rfl (z := (3 : Int32)) rfl ?_
    refine bI X3460 hx (hb hby at_469) (q := 471) rfl (z := (110 : Int32)) rfl ?_
    have f3463 := f3461.trans (CHr.wr W3460 (Safe.arv hZ0.alike Va3458 (by decide)) f3461.1)
    refine g_stC X3460 hx hZ0 Va3460 (i := 3) (by decide) (by decide) (by decide) (Nat.le_of_ble_eq_true rfl) (y := (110 : Int32)) (by decide) e3460 (hb hby at_471) (q := 472) rfl ?_
    intro T3462 h3462 X3462 e3462 W3462 V3462
    have N3462 := Fr.snoc X3462 N3460 gz3448
    have Va3462 : Arv Z h3462 b3446 k3446 .char (19 : Int32) [(iv 117), (iv 110), (iv 107), (iv 110), (iv 0), (iv 0), (iv 0), (iv 0), (iv 0), (iv 0), (iv 0), (iv 0), (iv 0), (iv 0), (iv 0), (iv 0), (iv 0), (iv 0), (iv 0)] (.int 0) := V3462
    refine g_dup X3462 hx (hb hby at_472) (q := 473) rfl rfl ?_
    refine cI X3462 hx (hb hby at_473) (q := 474) rfl (z := (4 : Int32)) rfl ?_
    refine bI X3462 hx (hb hby at_474) (q := 476) rfl (z := (111 : Int32)) rfl ?_
    have f3465 := f3463.trans (CHr.wr W3462 (Safe.arv hZ0.alike Va3460 (by decide)) f3463.1)
    refine g_stC X3462 hx hZ0 Va3462 (i := 4) (by decide) (by decide) (by decide) (Nat.le_of_ble_eq_true rfl) (y := (111 : Int32)) (by decide) e3462 (hb hby at_476) (q := 477) rfl ?_
    intro T3464 h3464 X3464 e3464 W3464 V3464
    have N3464 := Fr.snoc X3464 N3462 gz3448
    have Va3464 : Arv Z h3464 b3446 k3446 .char (19 : Int32) [(iv 117), (iv 110), (iv 107), (iv 110), (iv 111), (iv 0), (iv 0), (iv 0), (iv 0), (iv 0), (iv 0), (iv 0), (iv 0), (iv 0), (iv 0), (iv 0), (iv 0), (iv 0), (iv 0)] (.int 0) := V3464
    refine g_dup X3464 hx (hb hby at_477) (q := 478) rfl rfl ?_
    refine cI X3464 hx (hb hby at_478) (q := 479) rfl (z := (5 : Int32)) rfl ?_
    refine bI X3464 hx (hb hby at_479) (q := 481) rfl (z := (119 : Int32)) rfl ?_
    have f3467 := f3465.trans (CHr.wr W3464 (Safe.arv hZ0.alike Va3462 (by decide)) f3465.1)
    refine g_stC X3464 hx hZ0 Va3464 (i := 5) (by decide) (by decide) (by decide) (Nat.le_of_ble_eq_true rfl) (y := (119 : Int32)) (by decide) e3464 (hb hby at_481) (q := 482) rfl ?_
    intro T3466 h3466 X3466 e3466 W3466 V3466
    have N3466 := Fr.snoc X3466 N3464 gz3448
    have Va3466 : Arv Z h3466 b3446 k3446 .char (19 : Int32) [(iv 117), (iv 110), (iv 107), (iv 110), (iv 111), (iv 119), (iv 0), (iv 0), (iv 0), (iv 0), (iv 0), (iv 0), (iv 0), (iv 0), (iv 0), (iv 0), (iv 0), (iv 0), (iv 0)] (.int 0) := V3466
    refine g_dup X3466 hx (hb hby at_482) (q := 483) rfl rfl ?_
    refine bI X3466 hx (hb hby at_483) (q := 485) rfl (z := (6 : Int32)) rfl ?_
    refine bI X3466 hx (hb hby at_485) (q := 487) rfl (z := (110 : Int32)) rfl ?_
    have f3469 := f3467.trans (CHr.wr W3466 (Safe.arv hZ0.alike Va3464 (by decide)) f3467.1)
    refine g_stC X3466 hx hZ0 Va3466 (i := 6) (by decide) (by decide) (by decide) (Nat.le_of_ble_eq_true rfl) (y := (110 : Int32)) (by decide) e3466 (hb hby at_487) (q := 488) rfl ?_
    intro T3468 h3468 X3468 e3468 W3468 V3468
    have N3468 := Fr.snoc X3468 N3466 gz3448
    have Va3468 : Arv Z h3468 b3446 k3446 .char (19 : Int32) [(iv 117), (iv 110), (iv 107), (iv 110), (iv 111), (iv 119), (iv 110), (iv 0), (iv 0), (iv 0), (iv 0), (iv 0), (iv 0), (iv 0), (iv 0), (iv 0), (iv 0), (iv 0), (iv 0)] (.int 0) := V3468
    refine g_dup X3468 hx (hb hby at_488) (q := 489) rfl rfl ?_
    refine bI X3468 hx (hb hby at_489) (q := 491) rfl (z := (7 : Int32)) rfl ?_
    refine bI X3468 hx (hb hby at_491) (q := 493) rfl (z := (32 : Int32)) rfl ?_
    have f3471 := f3469.trans (CHr.wr W3468 (Safe.arv hZ0.alike Va3466 (by decide)) f3469.1)
    refine g_stC X3468 hx hZ0 Va3468 (i := 7) (by decide) (by decide) (by decide) (Nat.le_of_ble_eq_true rfl) (y := (32 : Int32)) (by decide) e3468 (hb hby at_493) (q := 494) rfl ?_
    intro T3470 h3470 X3470 e3470 W3470 V3470
    have N3470 := Fr.snoc X3470 N3468 gz3448
    have Va3470 : Arv Z h3470 b3446 k3446 .char (19 : Int32) [(iv 117), (iv 110), (iv 107), (iv 110), (iv 111), (iv 119), (iv 110), (iv 32), (iv 0), (iv 0), (iv 0), (iv 0), (iv 0), (iv 0), (iv 0), (iv 0), (iv 0), (iv 0), (iv 0)] (.int 0) := V3470
    refine g_dup X3470 hx (hb hby at_494) (q := 495) rfl rfl ?_
    refine bI X3470 hx (hb hby at_495) (q := 497) rfl (z := (8 : Int32)) rfl ?_
    refine bI X3470 hx (hb hby at_497) (q := 499) rfl (z := (102 : Int32)) rfl ?_
    have f3473 := f3471.trans (CHr.wr W3470 (Safe.arv hZ0.alike Va3468 (by decide)) f3471.1)
    refine g_stC X3470 hx hZ0 Va3470 (i := 8) (by decide) (by decide) (by decide) (Nat.le_of_ble_eq_true rfl) (y := (102 : Int32)) (by decide) e3470 (hb hby at_499) (q := 500) rfl ?_
    intro T3472 h3472 X3472 e3472 W3472 V3472
    have N3472 := Fr.snoc X3472 N3470 gz3448
    have Va3472 : Arv Z h3472 b3446 k3446 .char (19 : Int32) [(iv 117), (iv 110), (iv 107), (iv 110), (iv 111), (iv 119), (iv 110), (iv 32), (iv 102), (iv 0), (iv 0), (iv 0), (iv 0), (iv 0), (iv 0), (iv 0), (iv 0), (iv 0), (iv 0)] (.int 0) := V3472
    refine g_dup X3472 hx (hb hby at_500) (q := 501) rfl rfl ?_
    refine bI X3472 hx (hb hby at_501) (q := 503) rfl (z := (9 : Int32)) rfl ?_
    refine bI X3472 hx (hb hby at_503) (q := 505) rfl (z := (105 : Int32)) rfl ?_
    have f3475 := f3473.trans (CHr.wr W3472 (Safe.arv hZ0.alike Va3470 (by decide)) f3473.1)
    refine g_stC X3472 hx hZ0 Va3472 (i := 9) (by decide) (by decide) (by decide) (Nat.le_of_ble_eq_true rfl) (y := (105 : Int32)) (by decide) e3472 (hb hby at_505) (q := 506) rfl ?_
    intro T3474 h3474 X3474 e3474 W3474 V3474
    have N3474 := Fr.snoc X3474 N3472 gz3448
    have Va3474 : Arv Z h3474 b3446 k3446 .char (19 : Int32) [(iv 117), (iv 110), (iv 107), (iv 110), (iv 111), (iv 119), (iv 110), (iv 32), (iv 102), (iv 105), (iv 0), (iv 0), (iv 0), (iv 0), (iv 0), (iv 0), (iv 0), (iv 0), (iv 0)] (.int 0) := V3474
    refine g_dup X3474 hx (hb hby at_506) (q := 507) rfl rfl ?_
    refine bI X3474 hx (hb hby at_507) (q := 509) rfl (z := (10 : Int32)) rfl ?_
    refine bI X3474 hx (hb hby at_509) (q := 511) rfl (z := (101 : Int32)) rfl ?_
    have f3477 := f3475.trans (CHr.wr W3474 (Safe.arv hZ0.alike Va3472 (by decide)) f3475.1)
    refine g_stC X3474 hx hZ0 Va3474 (i := 10) (by decide) (by decide) (by decide) (Nat.le_of_ble_eq_true rfl) (y := (101 : Int32)) (by decide) e3474 (hb hby at_511) (q := 512) rfl ?_
    intro T3476 h3476 X3476 e3476 W3476 V3476
    have N3476 := Fr.snoc X3476 N3474 gz3448
    have Va3476 : Arv Z h3476 b3446 k3446 .char (19 : Int32) [(iv 117), (iv 110), (iv 107), (iv 110), (iv 111), (iv 119), (iv 110), (iv 32), (iv 102), (iv 105), (iv 101), (iv 0), (iv 0), (iv 0), (iv 0), (iv 0), (iv 0), (iv 0), (iv 0)] (.int 0) := V3476
    refine g_dup X3476 hx (hb hby at_512) (q := 513) rfl rfl ?_
    refine bI X3476 hx (hb hby at_513) (q := 515) rfl (z := (11 : Int32)) rfl ?_
    refine bI X3476 hx (hb hby at_515) (q := 517) rfl (z := (108 : Int32)) rfl ?_
    have f3479 := f3477.trans (CHr.wr W3476 (Safe.arv hZ0.alike Va3474 (by decide)) f3477.1)
    refine g_stC X3476 hx hZ0 Va3476 (i := 11) (by decide) (by decide) (by decide) (Nat.le_of_ble_eq_true rfl) (y := (108 : Int32)) (by decide) e3476 (hb hby at_517) (q := 518) rfl ?_
    intro T3478 h3478 X3478 e3478 W3478 V3478
    have N3478 := Fr.snoc X3478 N3476 gz3448
    have Va3478 : Arv Z h3478 b3446 k3446 .char (19 : Int32) [(iv 117), (iv 110), (iv 107), (iv 110), (iv 111), (iv 119), (iv 110), (iv 32), (iv 102), (iv 105), (iv 101), (iv 108), (iv 0), (iv 0), (iv 0), (iv 0), (iv 0), (iv 0), (iv 0)] (.int 0) := V3478
    refine g_dup X3478 hx (hb hby at_518) (q := 519) rfl rfl ?_
    refine bI X3478 hx (hb hby at_519) (q := 521) rfl (z := (12 : Int32)) rfl ?_
    refine bI X3478 hx (hb hby at_521) (q := 523) rfl (z := (100 : Int32)) rfl ?_
    have f3481 := f3479.trans (CHr.wr W3478 (Safe.arv hZ0.alike Va3476 (by decide)) f3479.1)
    refine g_stC X3478 hx hZ0 Va3478 (i := 12) (by decide) (by decide) (by decide) (Nat.le_of_ble_eq_true rfl) (y := (100 : Int32)) (by decide) e3478 (hb hby at_523) (q := 524) rfl ?_
    intro T3480 h3480 X3480 e3480 W3480 V3480
    have N3480 := Fr.snoc X3480 N3478 gz3448
    have Va3480 : Arv Z h3480 b3446 k3446 .char (19 : Int32) [(iv 117), (iv 110), (iv 107), (iv 110), (iv 111), (iv 119), (iv 110), (iv 32), (iv 102), (iv 105), (iv 101), (iv 108), (iv 100), (iv 0), (iv 0), (iv 0), (iv 0), (iv 0), (iv 0)] (.int 0) := V3480
    refine g_dup X3480 hx (hb hby at_524) (q := 525) rfl rfl ?_
    refine bI X3480 hx (hb hby at_525) (q := 527) rfl (z := (13 : Int32)) rfl ?_
    refine bI X3480 hx (hb hby at_527) (q := 529) rfl (z := (32 : Int32)) rfl ?_
    have f3483 := f3481.trans (CHr.wr W3480 (Safe.arv hZ0.alike Va3478 (by decide)) f3481.1)
    refine g_stC X3480 hx hZ0 Va3480 (i := 13) (by decide) (by decide) (by decide) (Nat.le_of_ble_eq_true rfl) (y := (32 : Int32)) (by decide) e3480 (hb hby at_529) (q := 530) rfl ?_
    intro T3482 h3482 X3482 e3482 W3482 V3482
    have N3482 := Fr.snoc X3482 N3480 gz3448
    have Va3482 : Arv Z h3482 b3446 k3446 .char (19 : Int32) [(iv 117), (iv 110), (iv 107), (iv 110), (iv 111), (iv 119), (iv 110), (iv 32), (iv 102), (iv 105), (iv 101), (iv 108), (iv 100), (iv 32), (iv 0), (iv 0), (iv 0), (iv 0), (iv 0)] (.int 0) := V3482
    refine g_dup X3482 hx (hb hby at_530) (q := 531) rfl rfl ?_
    refine bI X3482 hx (hb hby at_531) (q := 533) rfl (z := (14 : Int32)) rfl ?_
    refine bI X3482 hx (hb hby at_533) (q := 535) rfl (z := (39 : Int32)) rfl ?_
    have f3485 := f3483.trans (CHr.wr W3482 (Safe.arv hZ0.alike Va3480 (by decide)) f3483.1)
    refine g_stC X3482 hx hZ0 Va3482 (i := 14) (by decide) (by decide) (by decide) (Nat.le_of_ble_eq_true rfl) (y := (39 : Int32)) (by decide) e3482 (hb hby at_535) (q := 536) rfl ?_
    intro T3484 h3484 X3484 e3484 W3484 V3484
    have N3484 := Fr.snoc X3484 N3482 gz3448
    have Va3484 : Arv Z h3484 b3446 k3446 .char (19 : Int32) [(iv 117), (iv 110), (iv 107), (iv 110), (iv 111), (iv 119), (iv 110), (iv 32), (iv 102), (iv 105), (iv 101), (iv 108), (iv 100), (iv 32), (iv 39), (iv 0), (iv 0), (iv 0), (iv 0)] (.int 0) := V3484
    refine g_dup X3484 hx (hb hby at_536) (q := 537) rfl rfl ?_
    refine bI X3484 hx (hb hby at_537) (q := 539) rfl (z := (15 : Int32)) rfl ?_
    refine iLw X3484 hx (hb hby at_539) (q := 541) rfl rfl ?_
    have f3487 := f3485.trans (CHr.wr W3484 (Safe.arv hZ0.alike Va3482 (by decide)) f3485.1)
    refine g_stC X3484 hx hZ0 Va3484 (i := 15) (by decide) (by decide) (by decide) (Nat.le_of_ble_eq_true rfl) (y := (chr p1)) (chr_nar _) e3484 (hb hby at_541) (q := 542) rfl ?_
    intro T3486 h3486 X3486 e3486 W3486 V3486
    have N3486 := Fr.snoc X3486 N3484 gz3448
    have Va3486 : Arv Z h3486 b3446 k3446 .char (19 : Int32) [(iv 117), (iv 110), (iv 107), (iv 110), (iv 111), (iv 119), (iv 110), (iv 32), (iv 102), (iv 105), (iv 101), (iv 108), (iv 100), (iv 32), (iv 39), (.int (chr p1)), (iv 0), (iv 0), (iv 0)] (.int 0) := V3486
    refine g_dup X3486 hx (hb hby at_542) (q := 543) rfl rfl ?_
    refine bI X3486 hx (hb hby at_543) (q := 545) rfl (z := (16 : Int32)) rfl ?_
    refine iLw X3486 hx (hb hby at_545) (q := 547) rfl rfl ?_
    have f3489 := f3487.trans (CHr.wr W3486 (Safe.arv hZ0.alike Va3484 (by decide)) f3487.1)
    refine g_stC X3486 hx hZ0 Va3486 (i := 16) (by decide) (by decide) (by decide) (Nat.le_of_ble_eq_true rfl) (y := (chr p2)) (chr_nar _) e3486 (hb hby at_547) (q := 548) rfl ?_
    intro T3488 h3488 X3488 e3488 W3488 V3488
    have N3488 := Fr.snoc X3488 N3486 gz3448
    have Va3488 : Arv Z h3488 b3446 k3446 .char (19 : Int32) [(iv 117), (iv 110), (iv 107), (iv 110), (iv 111), (iv 119), (iv 110), (iv 32), (iv 102), (iv 105), (iv 101), (iv 108), (iv 100), (iv 32), (iv 39), (.int (chr p1)), (.int (chr p2)), (iv 0), (iv 0)] (.int 0) := V3488
    refine g_dup X3488 hx (hb hby at_548) (q := 549) rfl rfl ?_
    refine bI X3488 hx (hb hby at_549) (q := 551) rfl (z := (17 : Int32)) rfl ?_
    refine iLw X3488 hx (hb hby at_551) (q := 553) rfl rfl ?_
    have f3491 := f3489.trans (CHr.wr W3488 (Safe.arv hZ0.alike Va3486 (by decide)) f3489.1)
    refine g_stC X3488 hx hZ0 Va3488 (i := 17) (by decide) (by decide) (by decide) (Nat.le_of_ble_eq_true rfl) (y := (chr p3)) (chr_nar _) e3488 (hb hby at_553) (q := 554) rfl ?_
    intro T3490 h3490 X3490 e3490 W3490 V3490
    have N3490 := Fr.snoc X3490 N3488 gz3448
    have Va3490 : Arv Z h3490 b3446 k3446 .char (19 : Int32) [(iv 117), (iv 110), (iv 107), (iv 110), (iv 111), (iv 119), (iv 110), (iv 32), (iv 102), (iv 105), (iv 101), (iv 108), (iv 100), (iv 32), (iv 39), (.int (chr p1)), (.int (chr p2)), (.int (chr p3)), (iv 0)] (.int 0) := V3490
    refine g_dup X3490 hx (hb hby at_554) (q := 555) rfl rfl ?_
    refine bI X3490 hx (hb hby at_555) (q := 557) rfl (z := (18 : Int32)) rfl ?_
    refine bI X3490 hx (hb hby at_557) (q := 559) rfl (z := (39 : Int32)) rfl ?_
    have f3493 := f3491.trans (CHr.wr W3490 (Safe.arv hZ0.alike Va3488 (by decide)) f3491.1)
    refine g_stC X3490 hx hZ0 Va3490 (i := 18) (by decide) (by decide) (by decide) (Nat.le_of_ble_eq_true rfl) (y := (39 : Int32)) (by decide) e3490 (hb hby at_559) (q := 560) rfl ?_
    intro T3492 h3492 X3492 e3492 W3492 V3492
    have N3492 := Fr.snoc X3492 N3490 gz3448
    have Va3492 : Arv Z h3492 b3446 k3446 .char (19 : Int32) [(iv 117), (iv 110), (iv 107), (iv 110), (iv 111), (iv 119), (iv 110), (iv 32), (iv 102), (iv 105), (iv 101), (iv 108), (iv 100), (iv 32), (iv 39), (.int (chr p1)), (.int (chr p2)), (.int (chr p3)), (iv 39)] (.int 0) := V3492
    refine sAw X3492 hx (hb hby at_560) (q := 562) rfl rfl (Ls' := #[.val (.int p0), .val (.int p1), .val (.int p2), .val (.int p3), .val (iv 3), .val (.int (chr p1)), .val (.int (chr p2)), .val (.int (chr p3)), .val (.ref b3415), .val (.ref b3446), .unset, .unset]) rfl ?_
    refine g_goto X3492 hx (hb hby at_562) (q := 688) (by decide) (by decide) ?_
    refine aLw X3492 hx (hb hby at_688) (q := 690) rfl rfl rfl ?_
    have f3884 := ThS.ext E3415 Th
    have f3885 := ThS.ext E3417 f3884
    have f3886 := ThS.wr W3418 f3885
    have f3887 := ThS.wr W3423 f3886
    have f3888 := ThS.wr W3425 f3887
    have f3889 := ThS.keep K3427q (nsS (Exa.nostat f3436) ns0) f3888
    have f3890 := ThS.ext E3446 f3889
    have f3891 := ThS.wr W3447 f3890
    have f3892 := ThS.wr W3458 f3891
    have f3893 := ThS.wr W3460 f3892
    have f3894 := ThS.wr W3462 f3893
    have f3895 := ThS.wr W3464 f3894
    have f3896 := ThS.wr W3466 f3895
    have f3897 := ThS.wr W3468 f3896
    have f3898 := ThS.wr W3470 f3897
    have f3899 := ThS.wr W3472 f3898
    have f3900 := ThS.wr W3474 f3899
    have f3901 := ThS.wr W3476 f3900
    have f3902 := ThS.wr W3478 f3901
    have f3903 := ThS.wr W3480 f3902
    have f3904 := ThS.wr W3482 f3903
    have f3905 := ThS.wr W3484 f3904
    have f3906 := ThS.wr W3486 f3905
    have f3907 := ThS.wr W3488 f3906
    have f3908 := ThS.wr W3490 f3907
    have f3909 := ThS.wr W3492 f3908
    have f3910 := E3427q.ext E3446
    have f3911 := f3910.wr W3447
    have f3912 := f3911.wr W3458
    have f3913 := f3912.wr W3460
    have f3914 := f3913.wr W3462
    have f3915 := f3914.wr W3464
    have f3916 := f3915.wr W3466
    have f3917 := f3916.wr W3468
    have f3918 := f3917.wr W3470
    have f3919 := f3918.wr W3472
    have f3920 := f3919.wr W3474
    have f3921 := f3920.wr W3476
    have f3922 := f3921.wr W3478
    have f3923 := f3922.wr W3480
    have f3924 := f3923.wr W3482
    have f3925 := f3924.wr W3484
    have f3926 := f3925.wr W3486
    have f3927 := f3926.wr W3488
    have f3928 := f3927.wr W3490
    have f3929 := f3928.wr W3492
    have f3930 := C3427q.ext E3446
    have le3931 := E3417.1
    have le3932 := (Nat.le_trans le3931 (Nat.le_of_eq (Wr.size W3418).symm))
    have le3933 := (Nat.le_trans le3932 (Nat.le_of_eq (Wr.size W3423).symm))
    have le3934 := (Nat.le_trans le3933 (Nat.le_of_eq (Wr.size W3425).symm))
    have le3935 := (Nat.le_trans le3934 K3427q.1)
    have ne3936 : b3415 ≠ b3446 := (Nat.ne_of_lt (Nat.lt_of_lt_of_le (Nat.lt_of_lt_of_le A3415.lt le3935) (Nat.le_of_eq g3446.symm)))
    have f3937 := f3930.other W3447 (Or.inl ne3936)
    have f3938 := f3937.other W3458 (Or.inl ne3936)
    have f3939 := f3938.other W3460 (Or.inl ne3936)
    have f3940 := f3939.other W3462 (Or.inl ne3936)
    have f3941 := f3940.other W3464 (Or.inl ne3936)
    have f3942 := f3941.other W3466 (Or.inl ne3936)
    have f3943 := f3942.other W3468 (Or.inl ne3936)
    have f3944 := f3943.other W3470 (Or.inl ne3936)
    have f3945 := f3944.other W3472 (Or.inl ne3936)
    have f3946 := f3945.other W3474 (Or.inl ne3936)
    have f3947 := f3946.other W3476 (Or.inl ne3936)
    have f3948 := f3947.other W3478 (Or.inl ne3936)
    have f3949 := f3948.other W3480 (Or.inl ne3936)
    have f3950 := f3949.other W3482 (Or.inl ne3936)
    have f3951 := f3950.other W3484 (Or.inl ne3936)
    have f3952 := f3951.other W3486 (Or.inl ne3936)
    have f3953 := f3952.other W3488 (Or.inl ne3936)
    have f3954 := f3953.other W3490 (Or.inl ne3936)
    have f3955 := f3954.other W3492 (Or.inl ne3936)
    have f3956 := Fv3427.ext E3446
    have f3957 := f3956.other W3447 (Or.inl ne3936)
    have f3958 := f3957.other W3458 (Or.inl ne3936)
    have f3959 := f3958.other W3460 (Or.inl ne3936)
    have f3960 := f3959.other W3462 (Or.inl ne3936)
    have f3961 := f3960.other W3464 (Or.inl ne3936)
    have f3962 := f3961.other W3466 (Or.inl ne3936)
    have f3963 := f3962.other W3468 (Or.inl ne3936)
    have f3964 := f3963.other W3470 (Or.inl ne3936)
    have f3965 := f3964.other W3472 (Or.inl ne3936)
    have f3966 := f3965.other W3474 (Or.inl ne3936)
    have f3967 := f3966.other W3476 (Or.inl ne3936)
    have f3968 := f3967.other W3478 (Or.inl ne3936)
    have f3969 := f3968.other W3480 (Or.inl ne3936)
    have f3970 := f3969.other W3482 (Or.inl ne3936)
    have f3971 := f3970.other W3484 (Or.inl ne3936)
    have f3972 := f3971.other W3486 (Or.inl ne3936)
    have f3973 := f3972.other W3488 (Or.inl ne3936)
    have f3974 := f3973.other W3490 (Or.inl ne3936)
    have f3975 := f3974.other W3492 (Or.inl ne3936)
    have f3976 := Vb3427.ext E3446
    have ne3977 : t3427 ≠ b3446 := (Nat.ne_of_lt (Nat.lt_of_lt_of_le (Nat.lt_of_lt_of_le Vb3427.lt (Nat.le_refl _)) (Nat.le_of_eq g3446.symm)))
    have f3978 := f3976.other W3447 ne3977
    have f3979 := f3978.other W3458 ne3977
    have f3980 := f3979.other W3460 ne3977
    have f3981 := f3980.other W3462 ne3977
    have f3982 := f3981.other W3464 ne3977
    have f3983 := f3982.other W3466 ne3977
    have f3984 := f3983.other W3468 ne3977
    have f3985 := f3984.other W3470 ne3977
    have f3986 := f3985.other W3472 ne3977
    have f3987 := f3986.other W3474 ne3977
    have f3988 := f3987.other W3476 ne3977
    have f3989 := f3988.other W3478 ne3977
    have f3990 := f3989.other W3480 ne3977
    have f3991 := f3990.other W3482 ne3977
    have f3992 := f3991.other W3484 ne3977
    have f3993 := f3992.other W3486 ne3977
    have f3994 := f3993.other W3488 ne3977
    have f3995 := f3994.other W3490 ne3977
    have f3996 := f3995.other W3492 ne3977
    have f3997 := f3449.ext E3446
    have f3998 := f3997.wr W3447 gz3448
    have f3999 := f3998.wr W3458 gz3448
    have f4000 := f3999.wr W3460 gz3448
    have f4001 := f4000.wr W3462 gz3448
    have f4002 := f4001.wr W3464 gz3448
    have f4003 := f4002.wr W3466 gz3448
    have f4004 := f4003.wr W3468 gz3448
    have f4005 := f4004.wr W3470 gz3448
    have f4006 := f4005.wr W3472 gz3448
    have f4007 := f4006.wr W3474 gz3448
    have f4008 := f4007.wr W3476 gz3448
    have f4009 := f4008.wr W3478 gz3448
    have f4010 := f4009.wr W3480 gz3448
    have f4011 := f4010.wr W3482 gz3448
    have f4012 := f4011.wr W3484 gz3448
    have f4013 := f4012.wr W3486 gz3448
    have f4014 := f4013.wr W3488 gz3448
    have f4015 := f4014.wr W3490 gz3448
    have f4016 := f4015.wr W3492 gz3448
    have f4017 := f3493.trans (CHr.wr W3492 (Safe.arv hZ0.alike Va3490 (by decide)) f3493.1)
    refine g_stS X3492 hx hZ0 hown0 hS0 (Nat.zero_le _) (wd23 hw) (wd24 hw) (wd25 hw) (wd26 hw) (by decide) e3492 (ConK.back (W := 0) (rm_uf3 l Z a0 hw hl zC SC PC hX b3415 t3427 kb3427 (StrChars.lo8 (chr p1)) (StrChars.lo8 (chr p2)) (StrChars.lo8 (chr p3)) h3492 f4016 f3909 f3929 f3955 f3975 f3996) hZ0 (wd26 hw) (wd25 hw) (by decide) (by decide) (own_EW hw) f4017.1 sf0 all0 (Vm.MethodsKnown.alikeC (hZ0.alike.symm.trans hZ0.alike) hTK0) (Vm.FramesKnown.alikeC (hZ0.alike.symm.trans hZ0.alike) hBF0)) (by rw [hml]; rfl) (lenOf pd25 rfl) rfl (Nat.le_of_eq rfl) (hb hby at_690) (q := 693) rfl (by decide) (by decide) ?_
    rintro v3883 T3883 L3883 ⟨X3883, hS3883, hZ3883, hown3883, R3883⟩ Q3883
    obtain ⟨r_3883, m_3883, c_3883, kc_3883, rfl, Nq3883, K3883q, q3883_0, q3883_1, q3883_2, q3883_3, q3883_4, q3883_5, q3883_6⟩ := Q3883
    have N3883 := Fr.app N3492 Nq3883
    show Go _ _ _ _ (T3883.setTop (mkF m 693 #[.val (.int p0), .val (.int p1), .val (.int p2), .val (.int p3), .val (iv 3), .val (.int (chr p1)), .val (.int (chr p2)), .val (.int (chr p3)), .val (.ref b3415), .val (.ref b3446), .unset, .unset] [(.ref r_3883)]))
    refine sAw X3883 hx (hb hby at_693) (q := 695) rfl rfl (Ls' := #[.val (.int p0), .val (.int p1), .val (.int p2), .val (.int p3), .val (iv 3), .val (.int (chr p1)), .val (.int (chr p2)), .val (.int (chr p3)), .val (.ref b3415), .val (.ref b3446), .val (.ref r_3883), .unset]) rfl ?_
    refine aLw X3883 hx (hb hby at_695) (q := 697) rfl rfl rfl ?_
    refine nnY X3883 hx (hb hby at_697) (q := 702) (by decide) (by decide) ?_
    refine aLw X3883 hx (hb hby at_702) (q := 704) rfl rfl rfl ?_
    have f4019 := f4016.keep K3883q all0
    refine g_vu X3883 hx hZ3883 hown3883 (wd207 hw) (wd208 hw) (wd209 hw) (by decide) (wd211 hw) (wd210 hw) q3883_1 rfl (Con.back (W := 0) (rm_gmsg l Z a0 hw hl zC SC PC hX r_3883 m_3883 T3883.heap f4019 q3883_2) hZ3883 (wd212 hw) (wd168 hw) (by decide) (by decide)) (by rw [hml]; rfl) (lenOf pd19 rfl) rfl (Nat.le_of_eq rfl) (hb hby at_704) (q := 707) rfl (by decide) (by decide) ?_
    intro v4018 T4018 L4018 X4018 Q4018
    obtain ⟨rfl, Nq4018, e4018⟩ := Q4018
    have N4018 := Fr.app N3883 Nq4018
    show Go _ _ _ _ (T4018.setTop (mkF m 707 #[.val (.int p0), .val (.int p1), .val (.int p2), .val (.int p3), .val (iv 3), .val (.int (chr p1)), .val (.int (chr p2)), .val (.int (chr p3)), .val (.ref b3415), .val (.ref b3446), .val (.ref r_3883), .unset] [(.ref m_3883)]))
    refine sAw X4018 hx (hb hby at_707) (q := 709) rfl rfl (Ls' := #[.val (.int p0), .val (.int p1), .val (.int p2), .val (.int p3), .val (iv 3), .val (.int (chr p1)), .val (.int (chr p2)), .val (.int (chr p3)), .val (.ref b3415), .val (.ref b3446), .val (.ref r_3883), .val (.ref m_3883)]) rfl ?_
    refine aLw X4018 hx (hb hby at_709) (q := 711) rfl rfl rfl ?_
    refine nlN X4018 hx (hb hby at_711) (q := 714) rfl ?_
    refine aLw X4018 hx (hb hby at_714) (q := 716) rfl rfl rfl ?_
    refine g_new X4018 hx hZ3883 hown3883 (wd1 hw) (wd2 hw) (wd3 hw) (by decide) (by decide) e4018 (hb hby at_716) (q := 719) rfl ?_
    intro T4020 h4020 b4020 g4020 X4020 e4020 E4020 A4020 D4020
    have sf4021 : Safe Z EL T3883.vm T3883.heap b4020 := Safe.new (Nat.le_of_eq g4020.symm)
    have F4020_17 := D4020 (Or.inr (wd17 hw)) (ty := (.array .byte)) (by decide)
    have F4020_18 := D4020 (Or.inr (wd18 hw)) (ty := .byte) (by decide)
    refine g_dup X4020 hx (hb hby at_719) (q := 720) rfl rfl ?_
    refine aLw X4020 hx (hb hby at_720) (q := 722) rfl rfl rfl ?_
    have f4023 := f4019.ext E4020
    have gz4024 : Z.heap.size ≤ b4020 := Nat.le_trans f4019.2.1 (Nat.le_of_eq g4020.symm)
    have f4025 := Va3492.keep K3883q nin0
    have f4026 := f4025.ext E4020
    refine g_sp X4020 hx hZ3883 hown3883 (wd5 hw) (wd6 hw) (wd7 hw) rfl (by decide) e4020 (StrChars.Road.backV (s := (s.setVm T3883.vm)) (W := 2) hZ3883 (own_wStr hw) (kI := 4) (wd2 hw) (cs := ([(117 : Int32), (110 : Int32), (107 : Int32), (110 : Int32), (111 : Int32), (119 : Int32), (110 : Int32), (32 : Int32), (102 : Int32), (105 : Int32), (101 : Int32), (108 : Int32), (100 : Int32), (32 : Int32), (39 : Int32), (chr p1), (chr p2), (chr p3), (39 : Int32)] : List Int32)) (bs := (([(117 : Int32), (110 : Int32), (107 : Int32), (110 : Int32), (111 : Int32), (119 : Int32), (110 : Int32), (32 : Int32), (102 : Int32), (105 : Int32), (101 : Int32), (108 : Int32), (100 : Int32), (32 : Int32), (39 : Int32), (chr p1), (chr p2), (chr p3), (39 : Int32)] : List Int32).map (fun c => c.toInt8.toInt32))) (n := 19) gz4024 f4023.2.1 A4020 F4020_17 F4020_18 f4026 (SC.ext f4023.2) PC rfl rfl (by decide) (by decide) (alS lr117 (alS lr110 (alS lr107 (alS lr110 (alS lr111 (alS lr119 (alS lr110 (alS lr32 (alS lr102 (alS lr105 (alS lr101 (alS lr108 (alS lr100 (alS lr32 (alS lr39 (alS (chr_rng _) (alS (chr_rng _) (alS (chr_rng _) (alS lr39 al0))))))))))))))))))) rfl (by decide) (by decide)) (a := b4020) (argsL := [.ref b3446]) (W := 2) (nk := 1) (ns := 19) (Qc := StrChars.Road.QV Z b4020 (19 : Int32) (([(117 : Int32), (110 : Int32), (107 : Int32), (110 : Int32), (111 : Int32), (119 : Int32), (110 : Int32), (32 : Int32), (102 : Int32), (105 : Int32), (101 : Int32), (108 : Int32), (100 : Int32), (32 : Int32), (39 : Int32), (chr p1), (chr p2), (chr p3), (39 : Int32)] : List Int32).map (fun c => c.toInt8.toInt32)) h4020 Z.heap.size) (by rw [hml]; rfl) (lenOf pd24 rfl) rfl (Nat.le_of_eq rfl) (hb hby at_722) (q := 725) rfl (by decide) (by decide) ?_
    intro v4022 T4022 L4022 X4022 Q4022
    obtain ⟨rfl, Nq4022, K4022q, E4022q, C4022q, t4022, kb4022, tz4022, tg4022, tn4022, Fv4022, Va4022⟩ := Q4022
    have N4022 := Fr.app N4018 Nq4022
    have Vb4022 : Arv Z T4022.heap t4022 kb4022 .byte (19 : Int32) [(iv 117), (iv 110), (iv 107), (iv 110), (iv 111), (iv 119), (iv 110), (iv 32), (iv 102), (iv 105), (iv 101), (iv 108), (iv 100), (iv 32), (iv 39), (.int (StrChars.lo8 (chr p1))), (.int (StrChars.lo8 (chr p2))), (.int (StrChars.lo8 (chr p3))), (iv 39)] (.int 0) := Va4022
    show Go _ _ _ _ (T4022.setTop (mkF m 725 #[.val (.int p0), .val (.int p1), .val (.int p2), .val (.int p3), .val (iv 3), .val (.int (chr p1)), .val (.int (chr p2)), .val (.int (chr p3)), .val (.ref b3415), .val (.ref b3446), .val (.ref r_3883), .val (.ref m_3883)] [(.ref b4020), (.ref m_3883)]))
    have f4038 := q3883_3.ext E4020
    have f4039 := f4038.keep K4022q
    have f4040 := q3883_4.ext E4020
    have ne4041 : m_3883 ≠ b4020 := (Nat.ne_of_lt (Nat.lt_of_lt_of_le (Nat.lt_of_lt_of_le q3883_3.lt (Nat.le_refl _)) (Nat.le_of_eq g4020.symm)))
    have f4042 := f4040.keep K4022q (ninS ne4041 nin0)
    have f4043 := q3883_5.ext E4020
    have f4044 := f4043.keep K4022q (ninS ne4041 nin0)
    have f4045 := q3883_6.ext E4020
    have ne4046 : c_3883 ≠ b4020 := (Nat.ne_of_lt (Nat.lt_of_lt_of_le (Nat.lt_of_lt_of_le q3883_6.lt (Nat.le_refl _)) (Nat.le_of_eq g4020.symm)))
    have f4047 := f4045.keep K4022q (ninS ne4046 nin0)
    have f4048 := f4023.keep K4022q (allS gz4024 all0)
    refine g_vi X4022 hx hZ3883 hown3883 (wd223 hw) (wd224 hw) (notFace_of_selects (args := #[]) (mvT hZ3883 (wd226 hw))) (wd226 hw) (wd225 hw) (by decide) f4039 rfl (Con.back (W := 0) (rm_seq l Z a0 hw hl zC SC PC hX m_3883 c_3883 kc_3883 b4020 t4022 kb4022 (19 : Int32) [(iv 117), (iv 110), (iv 107), (iv 110), (iv 111), (iv 119), (iv 110), (iv 32), (iv 102), (iv 105), (iv 101), (iv 108), (iv 100), (iv 32), (iv 39), (.int (StrChars.lo8 (chr p1))), (.int (StrChars.lo8 (chr p2))), (.int (StrChars.lo8 (chr p3))), (iv 39)] T4022.heap f4048 f4039 f4042 f4044 f4047 E4022q C4022q Fv4022 Vb4022 ne4041) hZ3883 (wd227 hw) (wd3 hw) (by decide) (by decide)) (by rw [hml]; rfl) (lenOf pd26 rfl) rfl (Nat.le_of_eq rfl) (hb hby at_725) (q := 728) rfl (by decide) (by decide) ?_
    intro v4037 T4037 L4037 X4037 Q4037
    obtain ⟨rfl, Nq4037, e4037⟩ := Q4037
    have N4037 := Fr.app N4022 Nq4037
    show Go _ _ _ _ (T4037.setTop (mkF m 728 #[.val (.int p0), .val (.int p1), .val (.int p2), .val (.int p3), .val (iv 3), .val (.int (chr p1)), .val (.int (chr p2)), .val (.int (chr p3)), .val (.ref b3415), .val (.ref b3446), .val (.ref r_3883), .val (.ref m_3883)] [(iv 1)]))
    refine ifN X4037 hx (hb hby at_728) (q := 731) rfl (by decide) ?_
    refine cI X4037 hx (hb hby at_731) (q := 732) rfl (z := (1 : Int32)) rfl ?_
    refine g_goto X4037 hx (hb hby at_732) (q := 736) (by decide) (by decide) ?_
    have le4049 := E4020.1
    have le4050 := (Nat.le_trans le4049 K4022q.1)
    have f4051 := f4017.trans R3883
    have f4052 := f4051.trans (CHr.ext E4020 f4051.1)
    have f4053 := Safe.ext E4020 f4051.1 sf4021
    have f4054 := f4052.trans (CHr.keep K4022q (sfS f4053 sf0) f4052.1)
    refine endC X4037 hlk hS3883 (by rw [e4037]; exact (Nat.le_trans (Nat.le_refl _) le4050)) hZ3883 (own_EW hw) (by rw [e4037]; exact f4054) (fun h => by rw [hret] at h; cases h) (lastN X4037 hx (t := .boolean) (z' := (1 : Int32)) hret (by simp) (by decide) (hb hby at_736)) ?_ (by decide) (by decide)
    rw [e4037]
    exact ⟨rfl, N4037, trivial⟩
  · rw [hk2193]
    show Go _ _ _ _ (T0.setTop (mkF m 6 #[.val (.int p0), .val (.int p1), .val (.int p2), .val (.int p3), .unset, .unset, .unset, .unset, .unset, .unset, .unset, .unset] [(iv 4)]))
    refine sIw X0 hx (hb hby at_6) (q := 8) rfl (Ls' := #[.val (.int p0), .val (.int p1), .val (.int p2), .val (.int p3), .val (iv 4), .unset, .unset, .unset, .unset, .unset, .unset, .unset]) rfl ?_
    refine iL X0 hx (hb hby at_8) (q := 9) rfl rfl ?_
    refine pI X0 hx (hb hby at_9) (q := 12) rfl (z := (255 : Int32)) rfl ?_
    refine g_iand X0 hx (hb hby at_12) (q := 13) rfl rfl ?_
    refine g_i2c X0 hx (hb hby at_13) (q := 14) rfl (z := (chr p1)) rfl ?_
    refine sIw X0 hx (hb hby at_14) (q := 16) rfl (Ls' := #[.val (.int p0), .val (.int p1), .val (.int p2), .val (.int p3), .val (iv 4), .val (.int (chr p1)), .unset, .unset, .unset, .unset, .unset, .unset]) rfl ?_
    refine iL X0 hx (hb hby at_16) (q := 17) rfl rfl ?_
    refine pI X0 hx (hb hby at_17) (q := 20) rfl (z := (255 : Int32)) rfl ?_
    refine g_iand X0 hx (hb hby at_20) (q := 21) rfl rfl ?_
    refine g_i2c X0 hx (hb hby at_21) (q := 22) rfl (z := (chr p2)) rfl ?_
    refine sIw X0 hx (hb hby at_22) (q := 24) rfl (Ls' := #[.val (.int p0), .val (.int p1), .val (.int p2), .val (.int p3), .val (iv 4), .val (.int (chr p1)), .val (.int (chr p2)), .unset, .unset, .unset, .unset, .unset]) rfl ?_
    refine iL X0 hx (hb hby at_24) (q := 25) rfl rfl ?_
    refine pI X0 hx (hb hby at_25) (q := 28) rfl (z := (255 : Int32)) rfl ?_
    refine g_iand X0 hx (hb hby at_28) (q := 29) rfl rfl ?_
    refine g_i2c X0 hx (hb hby at_29) (q := 30) rfl (z := (chr p3)) rfl ?_
    refine sIw X0 hx (hb hby at_30) (q := 32) rfl (Ls' := #[.val (.int p0), .val (.int p1), .val (.int p2), .val (.int p3), .val (iv 4), .val (.int (chr p1)), .val (.int (chr p2)), .val (.int (chr p3)), .unset, .unset, .unset, .unset]) rfl ?_
    refine iLw X0 hx (hb hby at_32) (q := 34) rfl rfl ?_
    refine ifY X0 hx (hb hby at_34) (q := 148) (by decide) (by decide) (by decide) ?_
    refine iLw X0 hx (hb hby at_148) (q := 150) rfl rfl ?_
    refine cI X0 hx (hb hby at_150) (q := 151) rfl (z := (1 : Int32)) rfl ?_
    refine icY X0 hx (hb hby at_151) (q := 276) (by decide) (by decide) (by decide) ?_
    refine iLw X0 hx (hb hby at_276) (q := 278) rfl rfl ?_
    refine cI X0 hx (hb hby at_278) (q := 279) rfl (z := (2 : Int32)) rfl ?_
    refine icY X0 hx (hb hby at_279) (q := 415) (by decide) (by decide) (by decide) ?_
    refine iLw X0 hx (hb hby at_415) (q := 417) rfl rfl ?_
    refine cI X0 hx (hb hby at_417) (q := 418) rfl (z := (3 : Int32)) rfl ?_
    refine icY X0 hx (hb hby at_418) (q := 565) (by decide) (by decide) (by decide) ?_
    refine cN X0 hx (hb hby at_565) (q := 566) rfl ?_
    refine sAw X0 hx (hb hby at_566) (q := 568) rfl rfl (Ls' := #[.val (.int p0), .val (.int p1), .val (.int p2), .val (.int p3), .val (iv 4), .val (.int (chr p1)), .val (.int (chr p2)), .val (.int (chr p3)), .val .null, .unset, .unset, .unset]) rfl ?_
    refine bI X0 hx (hb hby at_568) (q := 570) rfl (z := (20 : Int32)) rfl ?_
    refine g_newA X0 hx hZ0 (aty := .char) (wd4 hw) (by decide) (n := 20) (by decide) (by decide) (by decide) (by decide) e0 (hb hby at_570) (q := 572) rfl ?_
    intro T4055 h4055 k4055 b4055 g4055 X4055 e4055 E4055 V4055
    have Va4055 : Arv Z h4055 b4055 k4055 .char (20 : Int32) [(iv 0), (iv 0), (iv 0), (iv 0), (iv 0), (iv 0), (iv 0), (iv 0), (iv 0), (iv 0), (iv 0), (iv 0), (iv 0), (iv 0), (iv 0), (iv 0), (iv 0), (iv 0), (iv 0), (iv 0)] (.int 0) := V4055
    refine g_dup X4055 hx (hb hby at_572) (q := 573) rfl rfl ?_
    refine cI X4055 hx (hb hby at_573) (q := 574) rfl (z := (0 : Int32)) rfl ?_
    refine bI X4055 hx (hb hby at_574) (q := 576) rfl (z := (117 : Int32)) rfl ?_
    have gz4057 : Z.heap.size ≤ b4055 := Nat.le_trans O0.2.1 (Nat.le_of_eq g4055.symm)
    have f4058 := C0.trans (CHr.ext E4055 C0.1)
    refine g_stC X4055 hx hZ0 Va4055 (i := 0) (by decide) (by decide) (by decide) (Nat.le_of_ble_eq_true rfl) (y := (117 : Int32)) (by decide) e4055 (hb hby at_576) (q := 577) rfl ?_
    intro T4056 h4056 X4056 e4056 W4056 V4056
    have N4056 := Fr.snoc X4056 N0 gz4057
    have Va4056 : Arv Z h4056 b4055 k4055 .char (20 : Int32) [(iv 117), (iv 0), (iv 0), (iv 0), (iv 0), (iv 0), (iv 0), (iv 0), (iv 0), (iv 0), (iv 0), (iv 0), (iv 0), (iv 0), (iv 0), (iv 0), (iv 0), (iv 0), (iv 0), (iv 0)] (.int 0) := V4056
    refine g_dup X4056 hx (hb hby at_577) (q := 578) rfl rfl ?_
    refine cI X4056 hx (hb hby at_578) (q := 579) rfl (z := (1 : Int32)) rfl ?_
    refine bI X4056 hx (hb hby at_579) (q := 581) rfl (z := (110 : Int32)) rfl ?_
    have f4060 := f4058.trans (CHr.wr W4056 (Safe.arv hZ0.alike Va4055 (by decide)) f4058.1)
    refine g_stC X4056 hx hZ0 Va4056 (i := 1) (by decide) (by decide) (by decide) (Nat.le_of_ble_eq_true rfl) (y := (110 : Int32)) (by decide) e4056 (hb hby at_581) (q := 582) rfl ?_
    intro T4059 h4059 X4059 e4059 W4059 V4059
    have N4059 := Fr.snoc X4059 N4056 gz4057
    have Va4059 : Arv Z h4059 b4055 k4055 .char (20 : Int32) [(iv 117), (iv 110), (iv 0), (iv 0), (iv 0), (iv 0), (iv 0), (iv 0), (iv 0), (iv 0), (iv 0), (iv 0), (iv 0), (iv 0), (iv 0), (iv 0), (iv 0), (iv 0), (iv 0), (iv 0)] (.int 0) := V4059
    refine g_dup X4059 hx (hb hby at_582) (q := 583) rfl rfl ?_
    refine cI X4059 hx (hb hby at_583) (q := 584) rfl (z := (2 : Int32)) rfl ?_
    refine bI X4059 hx (hb hby at_584) (q := 586) rfl (z := (107 : Int32)) rfl ?_
    have f4062 := f4060.trans (CHr.wr W4059 (Safe.arv hZ0.alike Va4056 (by decide)) f4060.1)
    refine g_stC X4059 hx hZ0 Va4059 (i := 2) (by decide) (by decide) (by decide) (Nat.le_of_ble_eq_true rfl) (y := (107 : Int32)) (by decide) e4059 (hb hby at_586) (q := 587) rfl ?_
    intro T4061 h4061 X4061 e4061 W4061 V4061
    have N4061 := Fr.snoc X4061 N4059 gz4057
    have Va4061 : Arv Z h4061 b4055 k4055 .char (20 : Int32) [(iv 117), (iv 110), (iv 107), (iv 0), (iv 0), (iv 0), (iv 0), (iv 0), (iv 0), (iv 0), (iv 0), (iv 0), (iv 0), (iv 0), (iv 0), (iv 0), (iv 0), (iv 0), (iv 0), (iv 0)] (.int 0) := V4061
    refine g_dup X4061 hx (hb hby at_587) (q := 588) rfl rfl ?_
    refine cI X4061 hx (hb hby at_588) (q := 589) rfl (z := (3 : Int32)) rfl ?_
    refine bI X4061 hx (hb hby at_589) (q := 591) rfl (z := (110 : Int32)) rfl ?_
    have f4064 := f4062.trans (CHr.wr W4061 (Safe.arv hZ0.alike Va4059 (by decide)) f4062.1)
    refine g_stC X4061 hx hZ0 Va4061 (i := 3) (by decide) (by decide) (by decide) (Nat.le_of_ble_eq_true rfl) (y := (110 : Int32)) (by decide) e4061 (hb hby at_591) (q := 592) rfl ?_
    intro T4063 h4063 X4063 e4063 W4063 V4063
    have N4063 := Fr.snoc X4063 N4061 gz4057
    have Va4063 : Arv Z h4063 b4055 k4055 .char (20 : Int32) [(iv 117), (iv 110), (iv 107), (iv 110), (iv 0), (iv 0), (iv 0), (iv 0), (iv 0), (iv 0), (iv 0), (iv 0), (iv 0), (iv 0), (iv 0), (iv 0), (iv 0), (iv 0), (iv 0), (iv 0)] (.int 0) := V4063
    refine g_dup X4063 hx (hb hby at_592) (q := 593) rfl rfl ?_
    refine cI X4063 hx (hb hby at_593) (q := 594) rfl (z := (4 : Int32)) rfl ?_
    refine bI X4063 hx (hb hby at_594) (q := 596) rfl (z := (111 : Int32)) rfl ?_
    have f4066 := f4064.trans (CHr.wr W4063 (Safe.arv hZ0.alike Va4061 (by decide)) f4064.1)
    refine g_stC X4063 hx hZ0 Va4063 (i := 4) (by decide) (by decide) (by decide) (Nat.le_of_ble_eq_true rfl) (y := (111 : Int32)) (by decide) e4063 (hb hby at_596) (q := 597) rfl ?_
    intro T4065 h4065 X4065 e4065 W4065 V4065
    have N4065 := Fr.snoc X4065 N4063 gz4057
    have Va4065 : Arv Z h4065 b4055 k4055 .char (20 : Int32) [(iv 117), (iv 110), (iv 107), (iv 110), (iv 111), (iv 0), (iv 0), (iv 0), (iv 0), (iv 0), (iv 0), (iv 0), (iv 0), (iv 0), (iv 0), (iv 0), (iv 0), (iv 0), (iv 0), (iv 0)] (.int 0) := V4065
    refine g_dup X4065 hx (hb hby at_597) (q := 598) rfl rfl ?_
    refine cI X4065 hx (hb hby at_598) (q := 599) rfl (z := (5 : Int32)) rfl ?_
    refine bI X4065 hx (hb hby at_599) (q := 601) rfl (z := (119 : Int32)) rfl ?_
    have f4068 := f4066.trans (CHr.wr W4065 (Safe.arv hZ0.alike Va4063 (by decide)) f4066.1)
    refine g_stC X4065 hx hZ0 Va4065 (i := 5) (by decide) (by decide) (by decide) (Nat.le_of_ble_eq_true rfl) (y := (119 : Int32)) (by decide) e4065 (hb hby at_601) (q := 602) rfl ?_
    intro T4067 h4067 X4067 e4067 W4067 V4067
    have N4067 := Fr.snoc X4067 N4065 gz4057
    have Va4067 : Arv Z h4067 b4055 k4055 .char (20 : Int32) [(iv 117), (iv 110), (iv 107), (iv 110), (iv 111), (iv 119), (iv 0), (iv 0), (iv 0), (iv 0), (iv 0), (iv 0), (iv 0), (iv 0), (iv 0), (iv 0), (iv 0), (iv 0), (iv 0), (iv 0)] (.int 0) := V4067
    refine g_dup X4067 hx (hb hby at_602) (q := 603) rfl rfl ?_
    refine bI X4067 hx (hb hby at_603) (q := 605) rfl (z := (6 : Int32)) rfl ?_
    refine bI X4067 hx (hb hby at_605) (q := 607) rfl (z := (110 : Int32)) rfl ?_
    have f4070 := f4068.trans (CHr.wr W4067 (Safe.arv hZ0.alike Va4065 (by decide)) f4068.1)
    refine g_stC X4067 hx hZ0 Va4067 (i := 6) (by decide) (by decide) (by decide) (Nat.le_of_ble_eq_true rfl) (y := (110 : Int32)) (by decide) e4067 (hb hby at_607) (q := 608) rfl ?_
    intro T4069 h4069 X4069 e4069 W4069 V4069
    have N4069 := Fr.snoc X4069 N4067 gz4057
    have Va4069 : Arv Z h4069 b4055 k4055 .char (20 : Int32) [(iv 117), (iv 110), (iv 107), (iv 110), (iv 111), (iv 119), (iv 110), (iv 0), (iv 0), (iv 0), (iv 0), (iv 0), (iv 0), (iv 0), (iv 0), (iv 0), (iv 0), (iv 0), (iv 0), (iv 0)] (.int 0) := V4069
    refine g_dup X4069 hx (hb hby at_608) (q := 609) rfl rfl ?_
    refine bI X4069 hx (hb hby at_609) (q := 611) rfl (z := (7 : Int32)) rfl ?_
    refine bI X4069 hx (hb hby at_611) (q := 613) rfl (z := (32 : Int32)) rfl ?_
    have f4072 := f4070.trans (CHr.wr W4069 (Safe.arv hZ0.alike Va4067 (by decide)) f4070.1)
    refine g_stC X4069 hx hZ0 Va4069 (i := 7) (by decide) (by decide) (by decide) (Nat.le_of_ble_eq_true rfl) (y := (32 : Int32)) (by decide) e4069 (hb hby at_613) (q := 614) rfl ?_
    intro T4071 h4071 X4071 e4071 W4071 V4071
    have N4071 := Fr.snoc X4071 N4069 gz4057
    have Va4071 : Arv Z h4071 b4055 k4055 .char (20 : Int32) [(iv 117), (iv 110), (iv 107), (iv 110), (iv 111), (iv 119), (iv 110), (iv 32), (iv 0), (iv 0), (iv 0), (iv 0), (iv 0), (iv 0), (iv 0), (iv 0), (iv 0), (iv 0), (iv 0), (iv 0)] (.int 0) := V4071
    refine g_dup X4071 hx (hb hby at_614) (q := 615) rfl rfl ?_
    refine bI X4071 hx (hb hby at_615) (q := 617) rfl (z := (8 : Int32)) rfl ?_
    refine bI X4071 hx (hb hby at_617) (q := 619) rfl (z := (102 : Int32)) rfl ?_
    have f4074 := f4072.trans (CHr.wr W4071 (Safe.arv hZ0.alike Va4069 (by decide)) f4072.1)
    refine g_stC X4071 hx hZ0 Va4071 (i := 8) (by decide) (by decide) (by decide) (Nat.le_of_ble_eq_true rfl) (y := (102 : Int32)) (by decide) e4071 (hb hby at_619) (q := 620) rfl ?_
    intro T4073 h4073 X4073 e4073 W4073 V4073
    have N4073 := Fr.snoc X4073 N4071 gz4057
    have Va4073 : Arv Z h4073 b4055 k4055 .char (20 : Int32) [(iv 117), (iv 110), (iv 107), (iv 110), (iv 111), (iv 119), (iv 110), (iv 32), (iv 102), (iv 0), (iv 0), (iv 0), (iv 0), (iv 0), (iv 0), (iv 0), (iv 0), (iv 0), (iv 0), (iv 0)] (.int 0) := V4073
    refine g_dup X4073 hx (hb hby at_620) (q := 621) rfl rfl ?_
    refine bI X4073 hx (hb hby at_621) (q := 623) rfl (z := (9 : Int32)) rfl ?_
    refine bI X4073 hx (hb hby at_623) (q := 625) rfl (z := (105 : Int32)) rfl ?_
    have f4076 := f4074.trans (CHr.wr W4073 (Safe.arv hZ0.alike Va4071 (by decide)) f4074.1)
    refine g_stC X4073 hx hZ0 Va4073 (i := 9) (by decide) (by decide) (by decide) (Nat.le_of_ble_eq_true rfl) (y := (105 : Int32)) (by decide) e4073 (hb hby at_625) (q := 626) rfl ?_
    intro T4075 h4075 X4075 e4075 W4075 V4075
    have N4075 := Fr.snoc X4075 N4073 gz4057
    have Va4075 : Arv Z h4075 b4055 k4055 .char (20 : Int32) [(iv 117), (iv 110), (iv 107), (iv 110), (iv 111), (iv 119), (iv 110), (iv 32), (iv 102), (iv 105), (iv 0), (iv 0), (iv 0), (iv 0), (iv 0), (iv 0), (iv 0), (iv 0), (iv 0), (iv 0)] (.int 0) := V4075
    refine g_dup X4075 hx (hb hby at_626) (q := 627) rfl rfl ?_
    refine bI X4075 hx (hb hby at_627) (q := 629) rfl (z := (10 : Int32)) rfl ?_
    refine bI X4075 hx (hb hby at_629) (q := 631) rfl (z := (101 : Int32)) rfl ?_
    have f4078 := f4076.trans (CHr.wr W4075 (Safe.arv hZ0.alike Va4073 (by decide)) f4076.1)
    refine g_stC X4075 hx hZ0 Va4075 (i := 10) (by decide) (by decide) (by decide) (Nat.le_of_ble_eq_true rfl) (y := (101 : Int32)) (by decide) e4075 (hb hby at_631) (q := 632) rfl ?_
    intro T4077 h4077 X4077 e4077 W4077 V4077
    have N4077 := Fr.snoc X4077 N4075 gz4057
    have Va4077 : Arv Z h4077 b4055 k4055 .char (20 : Int32) [(iv 117), (iv 110), (iv 107), (iv 110), (iv 111), (iv 119), (iv 110), (iv 32), (iv 102), (iv 105), (iv 101), (iv 0), (iv 0), (iv 0), (iv 0), (iv 0), (iv 0), (iv 0), (iv 0), (iv 0)] (.int 0) := V4077
    refine g_dup X4077 hx (hb hby at_632) (q := 633) rfl rfl ?_
    refine bI X4077 hx (hb hby at_633) (q := 635) rfl (z := (11 : Int32)) rfl ?_
    refine bI X4077 hx (hb hby at_635) (q := 637) rfl (z := (108 : Int32)) rfl ?_
    have f4080 := f4078.trans (CHr.wr W4077 (Safe.arv hZ0.alike Va4075 (by decide)) f4078.1)
    refine g_stC X4077 hx hZ0 Va4077 (i := 11) (by decide) (by decide) (by decide) (Nat.le_of_ble_eq_true rfl) (y := (108 : Int32)) (by decide) e4077 (hb hby at_637) (q := 638) rfl ?_
    intro T4079 h4079 X4079 e4079 W4079 V4079
    have N4079 := Fr.snoc X4079 N4077 gz4057
    have Va4079 : Arv Z h4079 b4055 k4055 .char (20 : Int32) [(iv 117), (iv 110), (iv 107), (iv 110), (iv 111), (iv 119), (iv 110), (iv 32), (iv 102), (iv 105), (iv 101), (iv 108), (iv 0), (iv 0), (iv 0), (iv 0), (iv 0), (iv 0), (iv 0), (iv 0)] (.int 0) := V4079
    refine g_dup X4079 hx (hb hby at_638) (q := 639) rfl rfl ?_
    refine bI X4079 hx (hb hby at_639) (q := 641) rfl (z := (12 : Int32)) rfl ?_
    refine bI X4079 hx (hb hby at_641) (q := 643) rfl (z := (100 : Int32)) rfl ?_
    have f4082 := f4080.trans (CHr.wr W4079 (Safe.arv hZ0.alike Va4077 (by decide)) f4080.1)
    refine g_stC X4079 hx hZ0 Va4079 (i := 12) (by decide) (by decide) (by decide) (Nat.le_of_ble_eq_true rfl) (y := (100 : Int32)) (by decide) e4079 (hb hby at_643) (q := 644) rfl ?_
    intro T4081 h4081 X4081 e4081 W4081 V4081
    have N4081 := Fr.snoc X4081 N4079 gz4057
    have Va4081 : Arv Z h4081 b4055 k4055 .char (20 : Int32) [(iv 117), (iv 110), (iv 107), (iv 110), (iv 111), (iv 119), (iv 110), (iv 32), (iv 102), (iv 105), (iv 101), (iv 108), (iv 100), (iv 0), (iv 0), (iv 0), (iv 0), (iv 0), (iv 0), (iv 0)] (.int 0) := V4081
    refine g_dup X4081 hx (hb hby at_644) (q := 645) rfl rfl ?_
    refine bI X4081 hx (hb hby at_645) (q := 647) rfl (z := (13 : Int32)) rfl ?_
    refine bI X4081 hx (hb hby at_647) (q := 649) rfl (z := (32 : Int32)) rfl ?_
    have f4084 := f4082.trans (CHr.wr W4081 (Safe.arv hZ0.alike Va4079 (by decide)) f4082.1)
    refine g_stC X4081 hx hZ0 Va4081 (i := 13) (by decide) (by decide) (by decide) (Nat.le_of_ble_eq_true rfl) (y := (32 : Int32)) (by decide) e4081 (hb hby at_649) (q := 650) rfl ?_
    intro T4083 h4083 X4083 e4083 W4083 V4083
    have N4083 := Fr.snoc X4083 N4081 gz4057
    have Va4083 : Arv Z h4083 b4055 k4055 .char (20 : Int32) [(iv 117), (iv 110), (iv 107), (iv 110), (iv 111), (iv 119), (iv 110), (iv 32), (iv 102), (iv 105), (iv 101), (iv 108), (iv 100), (iv 32), (iv 0), (iv 0), (iv 0), (iv 0), (iv 0), (iv 0)] (.int 0) := V4083
    refine g_dup X4083 hx (hb hby at_650) (q := 651) rfl rfl ?_
    refine bI X4083 hx (hb hby at_651) (q := 653) rfl (z := (14 : Int32)) rfl ?_
    refine bI X4083 hx (hb hby at_653) (q := 655) rfl (z := (39 : Int32)) rfl ?_
    have f4086 := f4084.trans (CHr.wr W4083 (Safe.arv hZ0.alike Va4081 (by decide)) f4084.1)
    refine g_stC X4083 hx hZ0 Va4083 (i := 14) (by decide) (by decide) (by decide) (Nat.le_of_ble_eq_true rfl) (y := (39 : Int32)) (by decide) e4083 (hb hby at_655) (q := 656) rfl ?_
    intro T4085 h4085 X4085 e4085 W4085 V4085
    have N4085 := Fr.snoc X4085 N4083 gz4057
    have Va4085 : Arv Z h4085 b4055 k4055 .char (20 : Int32) [(iv 117), (iv 110), (iv 107), (iv 110), (iv 111), (iv 119), (iv 110), (iv 32), (iv 102), (iv 105), (iv 101), (iv 108), (iv 100), (iv 32), (iv 39), (iv 0), (iv 0), (iv 0), (iv 0), (iv 0)] (.int 0) := V4085
    refine g_dup X4085 hx (hb hby at_656) (q := 657) rfl rfl ?_
    refine bI X4085 hx (hb hby at_657) (q := 659) rfl (z := (15 : Int32)) rfl ?_
    refine bI X4085 hx (hb hby at_659) (q := 661) rfl (z := (110 : Int32)) rfl ?_
    have f4088 := f4086.trans (CHr.wr W4085 (Safe.arv hZ0.alike Va4083 (by decide)) f4086.1)
    refine g_stC X4085 hx hZ0 Va4085 (i := 15) (by decide) (by decide) (by decide) (Nat.le_of_ble_eq_true rfl) (y := (110 : Int32)) (by decide) e4085 (hb hby at_661) (q := 662) rfl ?_
    intro T4087 h4087 X4087 e4087 W4087 V4087
    have N4087 := Fr.snoc X4087 N4085 gz4057
    have Va4087 : Arv Z h4087 b4055 k4055 .char (20 : Int32) [(iv 117), (iv 110), (iv 107), (iv 110), (iv 111), (iv 119), (iv 110), (iv 32), (iv 102), (iv 105), (iv 101), (iv 108), (iv 100), (iv 32), (iv 39), (iv 110), (iv 0), (iv 0), (iv 0), (iv 0)] (.int 0) := V4087
    refine g_dup X4087 hx (hb hby at_662) (q := 663) rfl rfl ?_
    refine bI X4087 hx (hb hby at_663) (q := 665) rfl (z := (16 : Int32)) rfl ?_
    refine bI X4087 hx (hb hby at_665) (q := 667) rfl (z := (117 : Int32)) rfl ?_
    have f4090 := f4088.trans (CHr.wr W4087 (Safe.arv hZ0.alike Va4085 (by decide)) f4088.1)
    refine g_stC X4087 hx hZ0 Va4087 (i := 16) (by decide) (by decide) (by decide) (Nat.le_of_ble_eq_true rfl) (y := (117 : Int32)) (by decide) e4087 (hb hby at_667) (q := 668) rfl ?_
    intro T4089 h4089 X4089 e4089 W4089 V4089
    have N4089 := Fr.snoc X4089 N4087 gz4057
    have Va4089 : Arv Z h4089 b4055 k4055 .char (20 : Int32) [(iv 117), (iv 110), (iv 107), (iv 110), (iv 111), (iv 119), (iv 110), (iv 32), (iv 102), (iv 105), (iv 101), (iv 108), (iv 100), (iv 32), (iv 39), (iv 110), (iv 117), (iv 0), (iv 0), (iv 0)] (.int 0) := V4089
    refine g_dup X4089 hx (hb hby at_668) (q := 669) rfl rfl ?_
    refine bI X4089 hx (hb hby at_669) (q := 671) rfl (z := (17 : Int32)) rfl ?_
    refine bI X4089 hx (hb hby at_671) (q := 673) rfl (z := (108 : Int32)) rfl ?_
    have f4092 := f4090.trans (CHr.wr W4089 (Safe.arv hZ0.alike Va4087 (by decide)) f4090.1)
    refine g_stC X4089 hx hZ0 Va4089 (i := 17) (by decide) (by decide) (by decide) (Nat.le_of_ble_eq_true rfl) (y := (108 : Int32)) (by decide) e4089 (hb hby at_673) (q := 674) rfl ?_
    intro T4091 h4091 X4091 e4091 W4091 V4091
    have N4091 := Fr.snoc X4091 N4089 gz4057
    have Va4091 : Arv Z h4091 b4055 k4055 .char (20 : Int32) [(iv 117), (iv 110), (iv 107), (iv 110), (iv 111), (iv 119), (iv 110), (iv 32), (iv 102), (iv 105), (iv 101), (iv 108), (iv 100), (iv 32), (iv 39), (iv 110), (iv 117), (iv 108), (iv 0), (iv 0)] (.int 0) := V4091
    refine g_dup X4091 hx (hb hby at_674) (q := 675) rfl rfl ?_
    refine bI X4091 hx (hb hby at_675) (q := 677) rfl (z := (18 : Int32)) rfl ?_
    refine bI X4091 hx (hb hby at_677) (q := 679) rfl (z := (108 : Int32)) rfl ?_
    have f4094 := f4092.trans (CHr.wr W4091 (Safe.arv hZ0.alike Va4089 (by decide)) f4092.1)
    refine g_stC X4091 hx hZ0 Va4091 (i := 18) (by decide) (by decide) (by decide) (Nat.le_of_ble_eq_true rfl) (y := (108 : Int32)) (by decide) e4091 (hb hby at_679) (q := 680) rfl ?_
    intro T4093 h4093 X4093 e4093 W4093 V4093
    have N4093 := Fr.snoc X4093 N4091 gz4057
    have Va4093 : Arv Z h4093 b4055 k4055 .char (20 : Int32) [(iv 117), (iv 110), (iv 107), (iv 110), (iv 111), (iv 119), (iv 110), (iv 32), (iv 102), (iv 105), (iv 101), (iv 108), (iv 100), (iv 32), (iv 39), (iv 110), (iv 117), (iv 108), (iv 108), (iv 0)] (.int 0) := V4093
    refine g_dup X4093 hx (hb hby at_680) (q := 681) rfl rfl ?_
    refine bI X4093 hx (hb hby at_681) (q := 683) rfl (z := (19 : Int32)) rfl ?_
    refine bI X4093 hx (hb hby at_683) (q := 685) rfl (z := (39 : Int32)) rfl ?_
    have f4096 := f4094.trans (CHr.wr W4093 (Safe.arv hZ0.alike Va4091 (by decide)) f4094.1)
    refine g_stC X4093 hx hZ0 Va4093 (i := 19) (by decide) (by decide) (by decide) (Nat.le_of_ble_eq_true rfl) (y := (39 : Int32)) (by decide) e4093 (hb hby at_685) (q := 686) rfl ?_
    intro T4095 h4095 X4095 e4095 W4095 V4095
    have N4095 := Fr.snoc X4095 N4093 gz4057
    have Va4095 : Arv Z h4095 b4055 k4055 .char (20 : Int32) [(iv 117), (iv 110), (iv 107), (iv 110), (iv 111), (iv 119), (iv 110), (iv 32), (iv 102), (iv 105), (iv 101), (iv 108), (iv 100), (iv 32), (iv 39), (iv 110), (iv 117), (iv 108), (iv 108), (iv 39)] (.int 0) := V4095
    refine sAw X4095 hx (hb hby at_686) (q := 688) rfl rfl (Ls' := #[.val (.int p0), .val (.int p1), .val (.int p2), .val (.int p3), .val (iv 4), .val (.int (chr p1)), .val (.int (chr p2)), .val (.int (chr p3)), .val .null, .val (.ref b4055), .unset, .unset]) rfl ?_
    refine aLw X4095 hx (hb hby at_688) (q := 690) rfl rfl rfl ?_
    have f4119 := ThS.ext E4055 Th
    have f4120 := ThS.wr W4056 f4119
    have f4121 := ThS.wr W4059 f4120
    have f4122 := ThS.wr W4061 f4121
    have f4123 := ThS.wr W4063 f4122
    have f4124 := ThS.wr W4065 f4123
    have f4125 := ThS.wr W4067 f4124
    have f4126 := ThS.wr W4069 f4125
    have f4127 := ThS.wr W4071 f4126
    have f4128 := ThS.wr W4073 f4127
    have f4129 := ThS.wr W4075 f4128
    have f4130 := ThS.wr W4077 f4129
    have f4131 := ThS.wr W4079 f4130
    have f4132 := ThS.wr W4081 f4131
    have f4133 := ThS.wr W4083 f4132
    have f4134 := ThS.wr W4085 f4133
    have f4135 := ThS.wr W4087 f4134
    have f4136 := ThS.wr W4089 f4135
    have f4137 := ThS.wr W4091 f4136
    have f4138 := ThS.wr W4093 f4137
    have f4139 := ThS.wr W4095 f4138
    have f4140 := O0.ext E4055
    have f4141 := f4140.wr W4056 gz4057
    have f4142 := f4141.wr W4059 gz4057
    have f4143 := f4142.wr W4061 gz4057
    have f4144 := f4143.wr W4063 gz4057
    have f4145 := f4144.wr W4065 gz4057
    have f4146 := f4145.wr W4067 gz4057
    have f4147 := f4146.wr W4069 gz4057
    have f4148 := f4147.wr W4071 gz4057
    have f4149 := f4148.wr W4073 gz4057
    have f4150 := f4149.wr W4075 gz4057
    have f4151 := f4150.wr W4077 gz4057
    have f4152 := f4151.wr W4079 gz4057
    have f4153 := f4152.wr W4081 gz4057
    have f4154 := f4153.wr W4083 gz4057
    have f4155 := f4154.wr W4085 gz4057
    have f4156 := f4155.wr W4087 gz4057
    have f4157 := f4156.wr W4089 gz4057
    have f4158 := f4157.wr W4091 gz4057
    have f4159 := f4158.wr W4093 gz4057
    have f4160 := f4159.wr W4095 gz4057
    have f4161 := f4096.trans (CHr.wr W4095 (Safe.arv hZ0.alike Va4093 (by decide)) f4096.1)
    refine g_stS X4095 hx hZ0 hown0 hS0 (Nat.zero_le _) (wd23 hw) (wd24 hw) (wd25 hw) (wd26 hw) (by decide) e4095 (ConK.back (W := 0) (rm_uf4 l Z a0 hw hl zC SC PC hX  h4095 f4160 f4139) hZ0 (wd26 hw) (wd25 hw) (by decide) (by decide) (own_EW hw) f4161.1 sf0 all0 (Vm.MethodsKnown.alikeC (hZ0.alike.symm.trans hZ0.alike) hTK0) (Vm.FramesKnown.alikeC (hZ0.alike.symm.trans hZ0.alike) hBF0)) (by rw [hml]; rfl) (lenOf pd25 rfl) rfl (Nat.le_of_eq rfl) (hb hby at_690) (q := 693) rfl (by decide) (by decide) ?_
    rintro v4118 T4118 L4118 ⟨X4118, hS4118, hZ4118, hown4118, R4118⟩ Q4118
    obtain ⟨r_4118, m_4118, c_4118, kc_4118, rfl, Nq4118, K4118q, q4118_0, q4118_1, q4118_2, q4118_3, q4118_4, q4118_5, q4118_6⟩ := Q4118
    have N4118 := Fr.app N4095 Nq4118
    show Go _ _ _ _ (T4118.setTop (mkF m 693 #[.val (.int p0), .val (.int p1), .val (.int p2), .val (.int p3), .val (iv 4), .val (.int (chr p1)), .val (.int (chr p2)), .val (.int (chr p3)), .val .null, .val (.ref b4055), .unset, .unset] [(.ref r_4118)]))
    refine sAw X4118 hx (hb hby at_693) (q := 695) rfl rfl (Ls' := #[.val (.int p0), .val (.int p1), .val (.int p2), .val (.int p3), .val (iv 4), .val (.int (chr p1)), .val (.int (chr p2)), .val (.int (chr p3)), .val .null, .val (.ref b4055), .val (.ref r_4118), .unset]) rfl ?_
    refine aLw X4118 hx (hb hby at_695) (q := 697) rfl rfl rfl ?_
    refine nnY X4118 hx (hb hby at_697) (q := 702) (by decide) (by decide) ?_
    refine aLw X4118 hx (hb hby at_702) (q := 704) rfl rfl rfl ?_
    have f4163 := f4160.keep K4118q all0
    refine g_vu X4118 hx hZ4118 hown4118 (wd207 hw) (wd208 hw) (wd209 hw) (by decide) (wd211 hw) (wd210 hw) q4118_1 rfl (Con.back (W := 0) (rm_gmsg l Z a0 hw hl zC SC PC hX r_4118 m_4118 T4118.heap f4163 q4118_2) hZ4118 (wd212 hw) (wd168 hw) (by decide) (by decide)) (by rw [hml]; rfl) (lenOf pd19 rfl) rfl (Nat.le_of_eq rfl) (hb hby at_704) (q := 707) rfl (by decide) (by decide) ?_
    intro v4162 T4162 L4162 X4162 Q4162
    obtain ⟨rfl, Nq4162, e4162⟩ := Q4162
    have N4162 := Fr.app N4118 Nq4162
    show Go _ _ _ _ (T4162.setTop (mkF m 707 #[.val (.int p0), .val (.int p1), .val (.int p2), .val (.int p3), .val (iv 4), .val (.int (chr p1)), .val (.int (chr p2)), .val (.int (chr p3)), .val .null, .val (.ref b4055), .val (.ref r_4118), .unset] [(.ref m_4118)]))
    refine sAw X4162 hx (hb hby at_707) (q := 709) rfl rfl (Ls' := #[.val (.int p0), .val (.int p1), .val (.int p2), .val (.int p3), .val (iv 4), .val (.int (chr p1)), .val (.int (chr p2)), .val (.int (chr p3)), .val .null, .val (.ref b4055), .val (.ref r_4118), .val (.ref m_4118)]) rfl ?_
    refine aLw X4162 hx (hb hby at_709) (q := 711) rfl rfl rfl ?_
    refine nlN X4162 hx (hb hby at_711) (q := 714) rfl ?_
    refine aLw X4162 hx (hb hby at_714) (q := 716) rfl rfl rfl ?_
    refine g_new X4162 hx hZ4118 hown4118 (wd1 hw) (wd2 hw) (wd3 hw) (by decide) (by decide) e4162 (hb hby at_716) (q := 719) rfl ?_
    intro T4164 h4164 b4164 g4164 X4164 e4164 E4164 A4164 D4164
    have sf4165 : Safe Z EL T4118.vm T4118.heap b4164 := Safe.new (Nat.le_of_eq g4164.symm)
    have F4164_17 := D4164 (Or.inr (wd17 hw)) (ty := (.array .byte)) (by decide)
    have F4164_18 := D4164 (Or.inr (wd18 hw)) (ty := .byte) (by decide)
    refine g_dup X4164 hx (hb hby at_719) (q := 720) rfl rfl ?_
    refine aLw X4164 hx (hb hby at_720) (q := 722) rfl rfl rfl ?_
    have f4167 := f4163.ext E4164
    have gz4168 : Z.heap.size ≤ b4164 := Nat.le_trans f4163.2.1 (Nat.le_of_eq g4164.symm)
    have f4169 := Va4095.keep K4118q nin0
    have f4170 := f4169.ext E4164
    refine g_sp X4164 hx hZ4118 hown4118 (wd5 hw) (wd6 hw) (wd7 hw) rfl (by decide) e4164 (StrChars.Road.backV (s := (s.setVm T4118.vm)) (W := 2) hZ4118 (own_wStr hw) (kI := 4) (wd2 hw) (cs := ([(117 : Int32), (110 : Int32), (107 : Int32), (110 : Int32), (111 : Int32), (119 : Int32), (110 : Int32), (32 : Int32), (102 : Int32), (105 : Int32), (101 : Int32), (108 : Int32), (100 : Int32), (32 : Int32), (39 : Int32), (110 : Int32), (117 : Int32), (108 : Int32), (108 : Int32), (39 : Int32)] : List Int32)) (bs := (([(117 : Int32), (110 : Int32), (107 : Int32), (110 : Int32), (111 : Int32), (119 : Int32), (110 : Int32), (32 : Int32), (102 : Int32), (105 : Int32), (101 : Int32), (108 : Int32), (100 : Int32), (32 : Int32), (39 : Int32), (110 : Int32), (117 : Int32), (108 : Int32), (108 : Int32), (39 : Int32)] : List Int32).map (fun c => c.toInt8.toInt32))) (n := 20) gz4168 f4167.2.1 A4164 F4164_17 F4164_18 f4170 (SC.ext f4167.2) PC rfl rfl (by decide) (by decide) (alS lr117 (alS lr110 (alS lr107 (alS lr110 (alS lr111 (alS lr119 (alS lr110 (alS lr32 (alS lr102 (alS lr105 (alS lr101 (alS lr108 (alS lr100 (alS lr32 (alS lr39 (alS lr110 (alS lr117 (alS lr108 (alS lr108 (alS lr39 al0)))))))))))))))))))) rfl (by decide) (by decide)) (a := b4164) (argsL := [.ref b4055]) (W := 2) (nk := 1) (ns := 20) (Qc := StrChars.Road.QV Z b4164 (20 : Int32) (([(117 : Int32), (110 : Int32), (107 : Int32), (110 : Int32), (111 : Int32), (119 : Int32), (110 : Int32), (32 : Int32), (102 : Int32), (105 : Int32), (101 : Int32), (108 : Int32), (100 : Int32), (32 : Int32), (39 : Int32), (110 : Int32), (117 : Int32), (108 : Int32), (108 : Int32), (39 : Int32)] : List Int32).map (fun c => c.toInt8.toInt32)) h4164 Z.heap.size) (by rw [hml]; rfl) (lenOf pd24 rfl) rfl (Nat.le_of_eq rfl) (hb hby at_722) (q := 725) rfl (by decide) (by decide) ?_
    intro v4166 T4166 L4166 X4166 Q4166
    obtain ⟨rfl, Nq4166, K4166q, E4166q, C4166q, t4166, kb4166, tz4166, tg4166, tn4166, Fv4166, Va4166⟩ := Q4166
    have N4166 := Fr.app N4162 Nq4166
    have Vb4166 : Arv Z T4166.heap t4166 kb4166 .byte (20 : Int32) [(iv 117), (iv 110), (iv 107), (iv 110), (iv 111), (iv 119), (iv 110), (iv 32), (iv 102), (iv 105), (iv 101), (iv 108), (iv 100), (iv 32), (iv 39), (iv 110), (iv 117), (iv 108), (iv 108), (iv 39)] (.int 0) := Va4166
    show Go _ _ _ _ (T4166.setTop (mkF m 725 #[.val (.int p0), .val (.int p1), .val (.int p2), .val (.int p3), .val (iv 4), .val (.int (chr p1)), .val (.int (chr p2)), .val (.int (chr p3)), .val .null, .val (.ref b4055), .val (.ref r_4118), .val (.ref m_4118)] [(.ref b4164), (.ref m_4118)]))
    have f4182 := q4118_3.ext E4164
    have f4183 := f4182.keep K4166q
    have f4184 := q4118_4.ext E4164
    have ne4185 : m_4118 ≠ b4164 := (Nat.ne_of_lt (Nat.lt_of_lt_of_le (Nat.lt_of_lt_of_le q4118_3.lt (Nat.le_refl _)) (Nat.le_of_eq g4164.symm)))
    have f4186 := f4184.keep K4166q (ninS ne4185 nin0)
    have f4187 := q4118_5.ext E4164
    have f4188 := f4187.keep K4166q (ninS ne4185 nin0)
    have f4189 := q4118_6.ext E4164
    have ne4190 : c_4118 ≠ b4164 := (Nat.ne_of_lt (Nat.lt_of_lt_of_le (Nat.lt_of_lt_of_le q4118_6.lt (Nat.le_refl _)) (Nat.le_of_eq g4164.symm)))
    have f4191 := f4189.keep K4166q (ninS ne4190 nin0)
    have f4192 := f4167.keep K4166q (allS gz4168 all0)
    refine g_vi X4166 hx hZ4118 hown4118 (wd223 hw) (wd224 hw) (notFace_of_selects (args := #[]) (mvT hZ4118 (wd226 hw))) (wd226 hw) (wd225 hw) (by decide) f4183 rfl (Con.back (W := 0) (rm_seq l Z a0 hw hl zC SC PC hX m_4118 c_4118 kc_4118 b4164 t4166 kb4166 (20 : Int32) [(iv 117), (iv 110), (iv 107), (iv 110), (iv 111), (iv 119), (iv 110), (iv 32), (iv 102), (iv 105), (iv 101), (iv 108), (iv 100), (iv 32), (iv 39), (iv 110), (iv 117), (iv 108), (iv 108), (iv 39)] T4166.heap f4192 f4183 f4186 f4188 f4191 E4166q C4166q Fv4166 Vb4166 ne4185) hZ4118 (wd227 hw) (wd3 hw) (by decide) (by decide)) (by rw [hml]; rfl) (lenOf pd26 rfl) rfl (Nat.le_of_eq rfl) (hb hby at_725) (q := 728) rfl (by decide) (by decide) ?_
    intro v4181 T4181 L4181 X4181 Q4181
    obtain ⟨rfl, Nq4181, e4181⟩ := Q4181
    have N4181 := Fr.app N4166 Nq4181
    show Go _ _ _ _ (T4181.setTop (mkF m 728 #[.val (.int p0), .val (.int p1), .val (.int p2), .val (.int p3), .val (iv 4), .val (.int (chr p1)), .val (.int (chr p2)), .val (.int (chr p3)), .val .null, .val (.ref b4055), .val (.ref r_4118), .val (.ref m_4118)] [(iv 1)]))
    refine ifN X4181 hx (hb hby at_728) (q := 731) rfl (by decide) ?_
    refine cI X4181 hx (hb hby at_731) (q := 732) rfl (z := (1 : Int32)) rfl ?_
    refine g_goto X4181 hx (hb hby at_732) (q := 736) (by decide) (by decide) ?_
    have le4193 := E4164.1
    have le4194 := (Nat.le_trans le4193 K4166q.1)
    have f4195 := f4161.trans R4118
    have f4196 := f4195.trans (CHr.ext E4164 f4195.1)
    have f4197 := Safe.ext E4164 f4195.1 sf4165
    have f4198 := f4196.trans (CHr.keep K4166q (sfS f4197 sf0) f4196.1)
    refine endC X4181 hlk hS4118 (by rw [e4181]; exact (Nat.le_trans (Nat.le_refl _) le4194)) hZ4118 (own_EW hw) (by rw [e4181]; exact f4198) (fun h => by rw [hret] at h; cases h) (lastN X4181 hx (t := .boolean) (z' := (1 : Int32)) hret (by simp) (by decide) (hb hby at_736)) ?_ (by decide) (by decide)
    rw [e4181]
    exact ⟨rfl, N4181, trivial⟩
theorem comes_1 {Post : Tables → Env → Array Value → State → Outcome → State → Prop} (hpost : ∀ tb e args s v u, (limb_1_1.after args s (.returned v) u = true ∧ limb_1_2.after args s (.returned v) u = true) → ReturnedEndW s (.returned v) u (Jvm.fieldLocs frame_1_writes args s ++ Jvm.arrayLocs frame_1_arrays args s ++ Jvm.staticLocs frame_1_statics s) 48 9984 → Post tb e args s (.returned v) u) :
    ArmFor flags0 classFile x code maxLocals ret World_1 tables_1 room_1 Calls_1 rest_1 Pre_1 Post := by
  intro l hfl _ _ p e ha hc hk s m args below hf hA hF happ hP
  obtain ⟨hcalls, hrest, hpre⟩ := hP
  obtain ⟨-, -, -, hnamed, -, -, -, hat⟩ := (Spec.applies_iff hf).mp happ
  obtain ⟨hg, hn⟩ := and_e (Cond.before_iff.mp (show (Jvm.Cond.and given_1 narrow_1).before args s = true from hpre))
  obtain ⟨g0, r0⟩ := and_e hg
  obtain ⟨i0, r1⟩ := and_e r0
  obtain ⟨i1, r2⟩ := and_e r1
  obtain ⟨i2, r3⟩ := and_e r2
  obtain ⟨w0, w1, w2, w3, rfl⟩ : ∃ w0 w1 w2 w3 : Value, args = #[w0, w1, w2, w3] := by
    have hs : args.size = 4 := by simpa [Cond.value, given_1] using g0
    obtain ⟨L⟩ := args
    match L, hs with
    | [w0, w1, w2, w3], _ => exact ⟨w0, w1, w2, w3, rfl⟩
  have hw := fun d (hd : d ∈ tables_1) => atoms_spec (ws := Jvm.Cond.code x code maxLocals ret :: tables_1) hat d (List.mem_cons_of_mem _ hd)
  obtain ⟨hsets, hown0⟩ := atoms_of _ (rest_1_c_eq ▸ (show rest_1_c.before _ s = true from hrest))
  have hfit : Fit s := fun {y c} hc i hi => by
    obtain ⟨ha, rfl⟩ := Array.getElem?_eq_some_iff.mp hc
    have q := List.all_eq_true.mp ((Array.all_eq_true_iff_forall_mem.mp hF) _ (Array.getElem_mem ha)) i (List.mem_range.mpr hi)
    simpa [Array.getElem?_eq_getElem hi] using q
  obtain ⟨z0, q0⟩ := is_v i0
  obtain rfl : w0 = (.int z0) := Option.some.inj q0
  obtain ⟨z1, q1⟩ := is_v i1
  obtain rfl : w1 = (.int z1) := Option.some.inj q1
  obtain ⟨z2, q2⟩ := is_v i2
  obtain rfl : w2 = (.int z2) := Option.some.inj q2
  obtain ⟨z3, q3⟩ := is_v r3
  obtain rfl : w3 = (.int z3) := Option.some.inj q3
  have n5 := not_v (Cond.before_iff.mp (hsets _ (List.mem_of_getElem? (i := 2) rfl)))
  obtain ⟨zC, ezC⟩ := is_v (Cond.before_iff.mp (hsets _ (List.mem_of_getElem? (i := 1) rfl)))
  have SC : Sta s s.heap sT1 "COMPACT_STRINGS" "Z" (.int zC) := Sta.start ezC (Or.inl (hsets _ (List.mem_of_getElem? (i := 0) rfl)))
  have PC : ¬ (zC = (0 : Int32)) := gotF (Cond.eq_ints ezC (Term.int_eval (0))) n5
  have hl : l.stackTraces = true := by unfold Launch.stackTraces; rw [hfl]; decide
  have hall : ∀ d, d ∈ tables_1 ∨ d ∈ jdkStatics_1 → d.before _ s = true := fun d q => q.elim (hw d) (fun z => hsets d z)
  have h2 : ∀ d ∈ Jvm.RoadKit.twoRefs, d.before _ s = true := fun d q => hall d ((by decide +kernel : ∀ d ∈ Jvm.RoadKit.twoRefs, d ∈ tables_1 ∨ d ∈ jdkStatics_1) d q)
  have hX0 : ∀ d ∈ fillAtoms sT3, d.before _ s = true := fun d q => hall d ((by decide +kernel : ∀ d ∈ fillAtoms sT3, d ∈ tables_1 ∨ d ∈ jdkStatics_1) d q)
  have hX := And.intro hX0 (thst_of hX0 h2)
  have hCH : CHv s EL s.vm s.heap := CHv.start (own_EW hw) hcalls.2.2.1 (hsets _ (List.mem_of_getElem? (i := 2) rfl)) (wd16 hw) (wd2 hw)
  obtain ⟨n, o, h1, h2, h3, _, L, rfl, hq1, -, hq⟩ := rm_law l s _ hw hl zC SC PC hX z0 z1 z2 z3  s.heap (Old.start s) ThS.start tables_1 p e ha hc hk s m _ below hf ((Spec.applies_iff_loose hf).mp happ).1 ⟨rfl, State.Warmed39.refl s, rfl, hCH, fun _ q => nomatch q⟩ ⟨MethodsKnown_of_tablesKnown hcalls.2.1, FramesKnown_of_framesKnown hcalls.1 hf⟩
  obtain ⟨rfl, N, -⟩ := hq1
  exact ⟨n, _, h1, h2, h3, hpost _ _ _ _ _ _ ⟨Cond.after_iff.mpr rfl, Cond.after_iff.mpr (eq_i res_at (Term.int_eval (1)) rfl)⟩ ⟨hq.1, hq.2.1, hq.2.2.1, hq.2.2.2.sift fun y hy => Or.inr (N y hy)⟩⟩
theorem main_1_1 : Claimed_1_1 := comes_1 fun _ _ _ _ _ _ h hF => ⟨h.1, hF⟩
theorem main_1_2 : Claimed_1_2 := comes_1 fun _ _ _ _ _ _ h hF => ⟨h.2, hF⟩
end Jvm.Pilot.@@N@@
namespace Jvm.Pilot.@@N@@
open Jvm Jvm.ClassFile Sem Op Lib Jvm.Free Jvm.Stand Jvm.Pilot.@@N@@.Jvm.D
/-! MADE BY PROGRAM (witnessworld.py) out of the Statement's table words and the real class files: 42 classes; the members and pool entries that the words name. The judged class is class 1, her method 1. -/
namespace start1
open Jvm.ClassFile
def u (s : String) : CpInfo := .utf8 (stringToUtf16 s)
/-- a pool by its gaps: so many unusable entries, then the entry; so many at the end -/
def gap : Nat → List CpInfo → List CpInfo
  | 0, r => r
  | n + 1, r => .unusable :: gap n r
def poolList (es : List (Nat × CpInfo)) (last : Nat) : List CpInfo := es.foldr (fun e r => gap e.1 (e.2 :: r)) (gap last [])
def pool (es : List (Nat × CpInfo)) (last : Nat) : Array CpInfo := ⟨poolList es last⟩
def fileOf (pool : Array CpInfo) (this : Nat) (attrs : Array Attribute := #[]) (ms : Array MethodInfo := #[]) (fl : Nat := 33) (sup : Nat := 0) (ifs : Array Nat := #[]) (fds : Array FieldInfo := #[]) : ClassFile where
  minorVersion := 0
  majorVersion := 65
  constantPool := pool
  accessFlags := fl
  thisClass := this
  superClass := sup
  interfaces := ifs
  fields := fds
  methods := ms
  attributes := attrs
def plain (name : String) (sup : Option ClassId) : Class where
  name := name
  kind := .ordinary
  loader := none
  accessFlags := 33
  super := sup
  interfaces := #[]
  cf := none
  fields := #[]
  methods := #[]
  instanceTypes := #[]
  staticTypes := #[]
  resolved := #[]
  callSites := []
  init := .initialized
  statics := none
  mirror := none

def pool0 : Array CpInfo := pool [(5, u "<init>"), (0, u "()V"), (1, .class_ 10), (1, u "java/lang/Object"), (7, u "()Ljava/lang/String;"), (18, u "toString"), (58, u "clone"), (0, u "()Ljava/lang/Object;")] 26

def k0c0 : Code := { maxStack := 0, maxLocals := 1, code := object_method_1_code, exceptionTable := #[], attributes := #[] }
def k0m0 : Method := { name := "<init>", desc := "()V", sig := { parameters := [], returnType := none }, accessFlags := 1, code := some k0c0 }
def k0m1 : Method := { name := "clone", desc := "()Ljava/lang/Object;", sig := { parameters := [], returnType := some (.object "java/lang/Object") }, accessFlags := 260, code := none }
def k0c2 : Code := { maxStack := 2, maxLocals := 1, code := ⟨#[0xbb, 0x00, 0x01, 0x59, 0xb7, 0x00, 0x03, 0x2a, 0xb6, 0x00, 0x07, 0xb6, 0x00, 0x0d, 0xb6, 0x00, 0x13, 0x12, 0x17, 0xb6, 0x00, 0x13, 0x2a, 0xb6, 0x00, 0x19, 0xb8, 0x00, 0x1d, 0xb6, 0x00, 0x13, 0xb6, 0x00, 0x23, 0xb0]⟩, exceptionTable := #[], attributes := #[] }
def k0m2 : Method := { name := "toString", desc := "()Ljava/lang/String;", sig := { parameters := [], returnType := some (.object "java/lang/String") }, accessFlags := 1, code := some k0c2 }
/-- java/lang/Object -/
def k0 : Class := { plain "java/lang/Object" none with
  accessFlags := 33
  interfaces := #[]
  cf := some (fileOf pool0 8 #[] #[{ accessFlags := 1, nameIndex := 5, descriptorIndex := 6, attributes := #[] }, { accessFlags := 260, nameIndex := 96, descriptorIndex := 97, attributes := #[] }, { accessFlags := 1, nameIndex := 37, descriptorIndex := 18, attributes := #[] }] 33 0 #[] #[])
  fields := #[]
  methods := #[k0m0, k0m1, k0m2]
  instanceTypes := #[]
  staticTypes := #[]
  resolved := Array.replicate 124 none
  statics := none }

def pool1 : Array CpInfo := pool [(2, .class_ 4), (1, u "java/lang/Object"), (0, u "<init>"), (0, u "()V"), (0, .integer 2147483647), (0, .class_ 9), (0, u "java/lang/String"), (0, .methodref 8 11), (0, .nameAndType 5 12), (0, u "([C)V"), (0, .methodref 14 15), (0, .class_ 16), (0, .nameAndType 17 18), (0, u "com/example/usage_throttle/usagethrottle/io/PolicyFields"), (0, u "unknownField"), (0, u "(Ljava/lang/Object;)Lcom/example/usage_throttle/usagethrottle/io/InvalidPolicyException;"), (0, .methodref 20 21), (0, .class_ 22), (0, .nameAndType 23 24), (0, u "com/example/usage_throttle/usagethrottle/io/InvalidPolicyException"), (0, u "getMessage"), (0, u "()Ljava/lang/String;"), (0, .methodref 8 26), (0, .nameAndType 27 28), (0, u "equals"), (0, u "(Ljava/lang/Object;)Z"), (0, .class_ 30), (0, u "com/example/usage_throttle/usagethrottle/io/PolicyFieldsUnknownFieldPinLaw"), (2, u "law"), (0, u "(IIII)Z")] 5

def k1m0 : Method := { name := "<init>", desc := "()V", sig := { parameters := [], returnType := none }, accessFlags := 2, code := none }
def k1c1 : Code := { maxStack := 6, maxLocals := 12, code := code, exceptionTable := #[], attributes := #[] }
def k1m1 : Method := { name := "law", desc := "(IIII)Z", sig := { parameters := [.int, .int, .int, .int], returnType := some .boolean }, accessFlags := 9, code := some k1c1 }
/-- com/example/usage_throttle/usagethrottle/io/PolicyFieldsUnknownFieldPinLaw -/
def k1 : Class := { plain "com/example/usage_throttle/usagethrottle/io/PolicyFieldsUnknownFieldPinLaw" (some 0) with
  accessFlags := 49
  interfaces := #[]
  cf := some (fileOf pool1 29 #[] #[{ accessFlags := 2, nameIndex := 5, descriptorIndex := 6, attributes := #[] }, { accessFlags := 9, nameIndex := 33, descriptorIndex := 34, attributes := #[] }] 49 2 #[] #[])
  fields := #[]
  methods := #[k1m0, k1m1]
  instanceTypes := #[]
  staticTypes := #[]
  resolved := Array.replicate 40 none
  statics := none }

def pool2 : Array CpInfo := pool [(1, .class_ 2), (0, u "java/io/Serializable"), (0, .class_ 4), (0, u "java/lang/Object")] 2

/-- java/io/Serializable -/
def k2 : Class := { plain "java/io/Serializable" (some 0) with
  accessFlags := 1537
  interfaces := #[]
  cf := some (fileOf pool2 1 #[] #[] 1537 3 #[] #[])
  fields := #[]
  methods := #[]
  instanceTypes := #[]
  staticTypes := #[]
  resolved := Array.replicate 7 none
  statics := none }

def pool3 : Array CpInfo := pool [(1, .class_ 2), (0, u "java/lang/Comparable"), (0, .class_ 4), (0, u "java/lang/Object")] 7

/-- java/lang/Comparable -/
def k3 : Class := { plain "java/lang/Comparable" (some 0) with
  accessFlags := 1537
  interfaces := #[]
  cf := some (fileOf pool3 1 #[] #[] 1537 3 #[] #[])
  fields := #[]
  methods := #[]
  instanceTypes := #[]
  staticTypes := #[]
  resolved := Array.replicate 12 none
  statics := none }

def pool4 : Array CpInfo := pool [(2, .class_ 4), (1, u "java/lang/CharSequence"), (42, .class_ 48), (0, u "java/lang/CharSequence$1CodePointIterator"), (10, .class_ 60), (0, u "java/lang/CharSequence$1CharIterator"), (5, .class_ 67), (0, u "java/lang/Object")] 63

/-- java/lang/CharSequence -/
def k4 : Class := { plain "java/lang/CharSequence" (some 0) with
  accessFlags := 1537
  interfaces := #[]
  cf := some (fileOf pool4 2 #[.nestMembers #[47, 59]] #[] 1537 66 #[] #[])
  fields := #[]
  methods := #[]
  instanceTypes := #[]
  staticTypes := #[]
  resolved := Array.replicate 131 none
  statics := none }

def pool5 : Array CpInfo := pool [(1, .class_ 2), (0, u "java/lang/constant/Constable"), (0, .class_ 4), (0, u "java/lang/Object")] 6

/-- java/lang/constant/Constable -/
def k5 : Class := { plain "java/lang/constant/Constable" (some 0) with
  accessFlags := 1537
  interfaces := #[]
  cf := some (fileOf pool5 1 #[] #[] 1537 3 #[] #[])
  fields := #[]
  methods := #[]
  instanceTypes := #[]
  staticTypes := #[]
  resolved := Array.replicate 11 none
  statics := none }

def pool6 : Array CpInfo := pool [(1, .class_ 2), (0, u "java/lang/constant/ConstantDesc"), (0, .class_ 4), (0, u "java/lang/Object")] 32

/-- java/lang/constant/ConstantDesc -/
def k6 : Class := { plain "java/lang/constant/ConstantDesc" (some 0) with
  accessFlags := 1537
  interfaces := #[]
  cf := some (fileOf pool6 1 #[] #[] 1537 3 #[] #[])
  fields := #[]
  methods := #[]
  instanceTypes := #[]
  staticTypes := #[]
  resolved := Array.replicate 37 none
  statics := none }

def pool7 : Array CpInfo := pool [(1, .methodref 2 3), (0, .class_ 4), (0, .nameAndType 5 6), (0, u "java/lang/Object"), (0, u "<init>"), (0, u "()V"), (0, .string 8), (0, u ""), (0, .fieldref 10 11), (0, .class_ 12), (0, .nameAndType 13 14), (0, u "java/lang/String"), (0, u "value"), (0, u "[B"), (0, .fieldref 10 16), (0, .nameAndType 17 18), (0, u "coder"), (0, u "B"), (2, u "hash"), (0, u "I"), (2, u "hashIsZero"), (0, u "Z"), (0, .methodref 10 28), (0, .nameAndType 5 29), (0, u "([CIILjava/lang/Void;)V"), (8, .fieldref 10 39), (0, .nameAndType 40 26), (0, u "COMPACT_STRINGS"), (1, .class_ 44), (1, u "java/lang/StringUTF16"), (0, u "compress"), (1, .methodref 42 48), (0, .nameAndType 49 50), (0, u "coderFromArrayLen"), (0, u "([BI)B"), (3, .methodref 55 56), (0, .class_ 57), (0, .nameAndType 58 59), (0, u "java/util/Arrays"), (0, u "copyOfRange"), (0, u "([BII)[B"), (47, .class_ 109), (1, u "java/lang/StringLatin1"), (32, u "()Z"), (34, .methodref 42 178), (0, .nameAndType 45 179), (0, u "([CII)[B"), (13, .class_ 195), (1, u "java/lang/System"), (16, .methodref 193 213), (0, .nameAndType 214 215), (0, u "arraycopy"), (0, u "(Ljava/lang/Object;ILjava/lang/Object;II)V"), (118, u "()I"), (0, .methodref 10 336), (0, .nameAndType 17 337), (0, u "()B"), (2, u "()[B"), (121, .nameAndType 463 464), (0, u "toString"), (0, u "()Ljava/lang/String;"), (24, .methodref 10 490), (0, .nameAndType 5 491), (0, u "(Ljava/lang/AbstractStringBuilder;Ljava/lang/Void;)V"), (1, .nameAndType 494 142), (0, u "isLatin1"), (11, .nameAndType 507 334), (0, u "length"), (24, u "getBytes"), (8, .methodref 107 542), (0, .nameAndType 543 544), (0, u "equals"), (0, u "([B[B)Z"), (4, .methodref 550 506), (0, .class_ 551), (0, u "java/lang/AbstractStringBuilder"), (0, .methodref 550 553), (0, .nameAndType 554 340), (0, u "getValue"), (18, u "(Ljava/lang/Object;)Z"), (1, .class_ 576), (0, u "java/lang/CharSequence"), (22, u "CASE_INSENSITIVE_ORDER"), (0, u "Ljava/util/Comparator;"), (181, u "valueOf"), (25, u "(Ljava/lang/Object;)Ljava/lang/String;"), (12, u "([BIB)V"), (183, .string 1006), (0, u "null"), (0, .methodref 2 462), (2, u "([C)V"), (36, .methodref 550 493), (53, u "serialPersistentFields"), (0, u "[Ljava/io/ObjectStreamField;"), (0, .class_ 1104), (0, u "java/lang/String$CaseInsensitiveComparator"), (1, .class_ 1107), (0, u "java/io/Serializable"), (0, .class_ 1109), (0, u "java/lang/Comparable"), (0, .class_ 1111), (0, u "java/lang/constant/Constable"), (0, .class_ 1113), (0, u "java/lang/constant/ConstantDesc"), (2, u "serialVersionUID"), (0, u "J"), (3, u "REPL"), (0, u "C"), (2, u "LATIN1"), (1, u "UTF16"), (105, u "(Ljava/lang/StringBuilder;)V")] 217

def k7m0 : Method := { name := "<init>", desc := "()V", sig := { parameters := [], returnType := none }, accessFlags := 1, code := none }
def k7c1 : Code := { maxStack := 5, maxLocals := 2, code := jdk_42_method_3_code, exceptionTable := #[], attributes := #[] }
def k7m1 : Method := { name := "<init>", desc := "([C)V", sig := { parameters := [(.array .char)], returnType := none }, accessFlags := 1, code := some k7c1 }
def k7c2 : Code := { maxStack := 3, maxLocals := 2, code := jdk_42_method_53_code, exceptionTable := #[], attributes := #[] }
def k7m2 : Method := { name := "<init>", desc := "(Ljava/lang/StringBuilder;)V", sig := { parameters := [(.object "java/lang/StringBuilder")], returnType := none }, accessFlags := 1, code := some k7c2 }
def k7c3 : Code := { maxStack := 2, maxLocals := 1, code := jdk_42_method_54_code, exceptionTable := #[], attributes := #[] }
def k7m3 : Method := { name := "length", desc := "()I", sig := { parameters := [], returnType := some .int }, accessFlags := 1, code := some k7c3 }
def k7c4 : Code := { maxStack := 2, maxLocals := 3, code := jdk_42_method_66_code, exceptionTable := #[], attributes := #[] }
def k7m4 : Method := { name := "equals", desc := "(Ljava/lang/Object;)Z", sig := { parameters := [(.object "java/lang/Object")], returnType := some .boolean }, accessFlags := 1, code := some k7c4 }
def k7c5 : Code := { maxStack := 1, maxLocals := 1, code := jdk_42_method_126_code, exceptionTable := #[], attributes := #[] }
def k7m5 : Method := { name := "toString", desc := "()Ljava/lang/String;", sig := { parameters := [], returnType := some (.object "java/lang/String") }, accessFlags := 1, code := some k7c5 }
def k7c6 : Code := { maxStack := 1, maxLocals := 1, code := jdk_42_method_133_code, exceptionTable := #[], attributes := #[] }
def k7m6 : Method := { name := "valueOf", desc := "(Ljava/lang/Object;)Ljava/lang/String;", sig := { parameters := [(.object "java/lang/Object")], returnType := some (.object "java/lang/String") }, accessFlags := 9, code := some k7c6 }
def k7c7 : Code := { maxStack := 5, maxLocals := 4, code := jdk_42_method_147_code, exceptionTable := #[], attributes := #[] }
def k7m7 : Method := { name := "getBytes", desc := "([BIB)V", sig := { parameters := [(.array .byte), .int, .byte], returnType := none }, accessFlags := 0, code := some k7c7 }
def k7c8 : Code := { maxStack := 4, maxLocals := 6, code := jdk_42_method_149_code, exceptionTable := #[], attributes := #[] }
def k7m8 : Method := { name := "<init>", desc := "([CIILjava/lang/Void;)V", sig := { parameters := [(.array .char), .int, .int, (.object "java/lang/Void")], returnType := none }, accessFlags := 2, code := some k7c8 }
def k7c9 : Code := { maxStack := 5, maxLocals := 5, code := jdk_42_method_150_code, exceptionTable := #[], attributes := #[] }
def k7m9 : Method := { name := "<init>", desc := "(Ljava/lang/AbstractStringBuilder;Ljava/lang/Void;)V", sig := { parameters := [(.object "java/lang/AbstractStringBuilder"), (.object "java/lang/Void")], returnType := none }, accessFlags := 0, code := some k7c9 }
def k7c10 : Code := { maxStack := 1, maxLocals := 1, code := jdk_42_method_152_code, exceptionTable := #[], attributes := #[] }
def k7m10 : Method := { name := "coder", desc := "()B", sig := { parameters := [], returnType := some .byte }, accessFlags := 0, code := some k7c10 }
/-- java/lang/String -/
def k7 : Class := { plain "java/lang/String" (some 0) with
  accessFlags := 49
  interfaces := #[2, 3, 4, 5, 6]
  cf := some (fileOf pool7 10 #[.nestMembers #[1103]] #[{ accessFlags := 1, nameIndex := 5, descriptorIndex := 6, attributes := #[] }, { accessFlags := 1, nameIndex := 5, descriptorIndex := 1010, attributes := #[] }, { accessFlags := 1, nameIndex := 5, descriptorIndex := 1233, attributes := #[] }, { accessFlags := 1, nameIndex := 507, descriptorIndex := 334, attributes := #[] }, { accessFlags := 1, nameIndex := 543, descriptorIndex := 573, attributes := #[] }, { accessFlags := 1, nameIndex := 463, descriptorIndex := 464, attributes := #[] }, { accessFlags := 9, nameIndex := 782, descriptorIndex := 808, attributes := #[] }, { accessFlags := 0, nameIndex := 532, descriptorIndex := 821, attributes := #[] }, { accessFlags := 2, nameIndex := 5, descriptorIndex := 29, attributes := #[] }, { accessFlags := 0, nameIndex := 5, descriptorIndex := 491, attributes := #[] }, { accessFlags := 0, nameIndex := 17, descriptorIndex := 337, attributes := #[] }] 49 2 #[1106, 1108, 575, 1110, 1112] #[{ accessFlags := 18, nameIndex := 13, descriptorIndex := 14, attributes := #[] }, { accessFlags := 18, nameIndex := 17, descriptorIndex := 18, attributes := #[] }, { accessFlags := 2, nameIndex := 21, descriptorIndex := 22, attributes := #[] }, { accessFlags := 2, nameIndex := 25, descriptorIndex := 26, attributes := #[] }, { accessFlags := 26, nameIndex := 1116, descriptorIndex := 1117, attributes := #[] }, { accessFlags := 24, nameIndex := 40, descriptorIndex := 26, attributes := #[] }, { accessFlags := 26, nameIndex := 1101, descriptorIndex := 1102, attributes := #[] }, { accessFlags := 26, nameIndex := 1121, descriptorIndex := 1122, attributes := #[] }, { accessFlags := 25, nameIndex := 599, descriptorIndex := 600, attributes := #[] }, { accessFlags := 24, nameIndex := 1125, descriptorIndex := 18, attributes := #[] }, { accessFlags := 24, nameIndex := 1127, descriptorIndex := 18, attributes := #[] }])
  fields := #[{ name := "value", type := (.array .byte), accessFlags := 18, slot := 0, constantValue := 0 }, { name := "coder", type := .byte, accessFlags := 18, slot := 1, constantValue := 0 }, { name := "hash", type := .int, accessFlags := 2, slot := 2, constantValue := 0 }, { name := "hashIsZero", type := .boolean, accessFlags := 2, slot := 3, constantValue := 0 }, { name := "serialVersionUID", type := .long, accessFlags := 26, slot := 0, constantValue := 0 }, { name := "COMPACT_STRINGS", type := .boolean, accessFlags := 24, slot := 1, constantValue := 0 }, { name := "serialPersistentFields", type := (.array (.object "java/io/ObjectStreamField")), accessFlags := 26, slot := 2, constantValue := 0 }, { name := "REPL", type := .char, accessFlags := 26, slot := 3, constantValue := 0 }, { name := "CASE_INSENSITIVE_ORDER", type := (.object "java/util/Comparator"), accessFlags := 25, slot := 4, constantValue := 0 }, { name := "LATIN1", type := .byte, accessFlags := 24, slot := 5, constantValue := 0 }, { name := "UTF16", type := .byte, accessFlags := 24, slot := 6, constantValue := 0 }]
  methods := #[k7m0, k7m1, k7m2, k7m3, k7m4, k7m5, k7m6, k7m7, k7m8, k7m9, k7m10]
  instanceTypes := #[(.array .byte), .byte, .int, .boolean]
  staticTypes := #[.long, .boolean, (.array (.object "java/io/ObjectStreamField")), .char, (.object "java/util/Comparator"), .byte, .byte]
  resolved := Array.replicate 1451 none
  statics := some 0 }

def pool8 : Array CpInfo := pool [(2, .class_ 4), (0, .nameAndType 5 6), (0, u "java/lang/Object"), (0, u "<init>"), (0, u "()V"), (23, .class_ 32), (1, u "com/example/usage_throttle/usagethrottle/io/PolicyFields"), (0, u "NAMES"), (0, u "Ljava/util/List;"), (8, u "unknownField"), (0, u "(Ljava/lang/Object;)Lcom/example/usage_throttle/usagethrottle/io/InvalidPolicyException;"), (9, .class_ 55), (0, u "com/example/usage_throttle/usagethrottle/io/InvalidPolicyException"), (0, .class_ 57), (0, u "java/lang/StringBuilder"), (0, .methodref 56 3), (2, .methodref 56 62), (0, .nameAndType 63 64), (0, u "append"), (0, u "(Ljava/lang/String;)Ljava/lang/StringBuilder;"), (0, .string 66), (0, u "'"), (0, .methodref 56 68), (0, .nameAndType 69 70), (0, u "toString"), (0, u "()Ljava/lang/String;"), (0, .methodref 54 72), (0, .nameAndType 5 73), (0, u "(Ljava/lang/String;)V"), (39, u "Ljava/math/BigInteger;"), (2, u "LARGEST"), (93, u "NAME"), (0, u "Ljava/util/regex/Pattern;"), (11, .string 224), (0, u "unknown field '"), (0, .methodref 56 226), (0, .nameAndType 63 227), (0, u "(Ljava/lang/Object;)Ljava/lang/StringBuilder;"), (61, u "ENDPOINT_FORMS"), (0, u "Ljava/lang/String;")] 43

def k8m0 : Method := { name := "<init>", desc := "()V", sig := { parameters := [], returnType := none }, accessFlags := 2, code := none }
def k8c1 : Code := { maxStack := 4, maxLocals := 1, code := prog_8_method_6_code, exceptionTable := #[], attributes := #[] }
def k8m1 : Method := { name := "unknownField", desc := "(Ljava/lang/Object;)Lcom/example/usage_throttle/usagethrottle/io/InvalidPolicyException;", sig := { parameters := [(.object "java/lang/Object")], returnType := some (.object "com/example/usage_throttle/usagethrottle/io/InvalidPolicyException") }, accessFlags := 8, code := some k8c1 }
/-- com/example/usage_throttle/usagethrottle/io/PolicyFields -/
def k8 : Class := { plain "com/example/usage_throttle/usagethrottle/io/PolicyFields" (some 0) with
  accessFlags := 32
  interfaces := #[]
  cf := some (fileOf pool8 30 #[] #[{ accessFlags := 2, nameIndex := 5, descriptorIndex := 6, attributes := #[] }, { accessFlags := 8, nameIndex := 43, descriptorIndex := 44, attributes := #[] }] 32 2 #[] #[{ accessFlags := 26, nameIndex := 33, descriptorIndex := 34, attributes := #[] }, { accessFlags := 26, nameIndex := 210, descriptorIndex := 211, attributes := #[] }, { accessFlags := 26, nameIndex := 289, descriptorIndex := 290, attributes := #[] }, { accessFlags := 26, nameIndex := 116, descriptorIndex := 113, attributes := #[] }])
  fields := #[{ name := "NAMES", type := (.object "java/util/List"), accessFlags := 26, slot := 0, constantValue := 0 }, { name := "NAME", type := (.object "java/util/regex/Pattern"), accessFlags := 26, slot := 1, constantValue := 0 }, { name := "ENDPOINT_FORMS", type := (.object "java/lang/String"), accessFlags := 26, slot := 2, constantValue := 0 }, { name := "LARGEST", type := (.object "java/math/BigInteger"), accessFlags := 26, slot := 3, constantValue := 0 }]
  methods := #[k8m0, k8m1]
  instanceTypes := #[]
  staticTypes := #[(.object "java/util/List"), (.object "java/util/regex/Pattern"), (.object "java/lang/String"), (.object "java/math/BigInteger")]
  resolved := Array.replicate 334 none
  statics := none }

def pool9 : Array CpInfo := pool [(1, .methodref 2 3), (0, .class_ 4), (0, .nameAndType 5 6), (0, u "java/lang/Object"), (0, u "<init>"), (0, u "()V"), (0, .fieldref 8 9), (0, .class_ 10), (0, .nameAndType 11 12), (0, u "java/lang/Throwable"), (0, u "cause"), (0, u "Ljava/lang/Throwable;"), (0, .fieldref 8 14), (0, .nameAndType 15 16), (0, u "UNASSIGNED_STACK"), (0, u "[Ljava/lang/StackTraceElement;"), (0, .fieldref 8 18), (0, .nameAndType 19 16), (0, u "stackTrace"), (0, .fieldref 8 21), (0, .nameAndType 22 23), (0, u "SUPPRESSED_SENTINEL"), (0, u "Ljava/util/List;"), (0, .fieldref 8 25), (0, .nameAndType 26 23), (0, u "suppressedExceptions"), (0, .methodref 8 28), (0, .nameAndType 29 30), (0, u "fillInStackTrace"), (0, u "()Ljava/lang/Throwable;"), (0, .fieldref 8 32), (0, .nameAndType 33 34), (0, u "detailMessage"), (0, u "Ljava/lang/String;"), (3, u "()Ljava/lang/String;"), (2, u "getMessage"), (51, .class_ 94), (0, u "java/lang/Throwable$WrappedPrintStream"), (6, .class_ 103), (1, u "java/lang/Throwable$PrintStreamOrWriter"), (61, u "$assertionsDisabled"), (0, u "Z"), (26, .class_ 194), (0, u "java/lang/Throwable$WrappedPrintWriter"), (3, .fieldref 8 199), (0, .nameAndType 200 201), (0, u "backtrace"), (0, u "Ljava/lang/Object;"), (0, .methodref 8 203), (0, .nameAndType 29 204), (0, u "(I)Ljava/lang/Throwable;"), (6, u "depth"), (0, u "I"), (10, u "(Ljava/lang/String;)V"), (45, .class_ 271), (1, u "java/lang/Throwable$SentinelHolder"), (32, u "EMPTY_THROWABLE_ARRAY"), (0, u "[Ljava/lang/Throwable;"), (12, .class_ 319), (0, u "java/io/Serializable"), (0, u "serialVersionUID"), (0, u "J"), (5, u "NULL_CAUSE_MESSAGE"), (0, u "SELF_SUPPRESSION_MESSAGE"), (0, u "CAUSE_CAPTION"), (0, u "SUPPRESSED_CAPTION")] 73

def k9c0 : Code := { maxStack := 2, maxLocals := 1, code := jdk_78_method_1_code, exceptionTable := #[], attributes := #[] }
def k9m0 : Method := { name := "<init>", desc := "()V", sig := { parameters := [], returnType := none }, accessFlags := 1, code := some k9c0 }
def k9c1 : Code := { maxStack := 2, maxLocals := 2, code := jdk_78_method_2_code, exceptionTable := #[], attributes := #[] }
def k9m1 : Method := { name := "<init>", desc := "(Ljava/lang/String;)V", sig := { parameters := [(.object "java/lang/String")], returnType := none }, accessFlags := 1, code := some k9c1 }
def k9c2 : Code := { maxStack := 1, maxLocals := 1, code := jdk_78_method_6_code, exceptionTable := #[], attributes := #[] }
def k9m2 : Method := { name := "getMessage", desc := "()Ljava/lang/String;", sig := { parameters := [], returnType := some (.object "java/lang/String") }, accessFlags := 1, code := some k9c2 }
def k9c3 : Code := { maxStack := 2, maxLocals := 1, code := ⟨#[0x2a, 0xb4, 0x00, 0x11, 0xc7, 0x00, 0x0a, 0x2a, 0xb4, 0x00, 0xc6, 0xc6, 0x00, 0x10, 0x2a, 0x03, 0xb6, 0x00, 0xca, 0x57, 0x2a, 0xb2, 0x00, 0x0d, 0xb5, 0x00, 0x11, 0x2a, 0xb0]⟩, exceptionTable := #[], attributes := #[] }
def k9m3 : Method := { name := "fillInStackTrace", desc := "()Ljava/lang/Throwable;", sig := { parameters := [], returnType := some (.object "java/lang/Throwable") }, accessFlags := 33, code := some k9c3 }
def k9m4 : Method := { name := "fillInStackTrace", desc := "(I)Ljava/lang/Throwable;", sig := { parameters := [.int], returnType := some (.object "java/lang/Throwable") }, accessFlags := 258, code := none }
/-- java/lang/Throwable -/
def k9 : Class := { plain "java/lang/Throwable" (some 0) with
  accessFlags := 33
  interfaces := #[2]
  cf := some (fileOf pool9 8 #[.nestMembers #[193, 93, 101, 269]] #[{ accessFlags := 1, nameIndex := 5, descriptorIndex := 6, attributes := #[] }, { accessFlags := 1, nameIndex := 5, descriptorIndex := 223, attributes := #[] }, { accessFlags := 1, nameIndex := 41, descriptorIndex := 38, attributes := #[] }, { accessFlags := 33, nameIndex := 29, descriptorIndex := 30, attributes := #[] }, { accessFlags := 258, nameIndex := 29, descriptorIndex := 204, attributes := #[] }] 33 2 #[318] #[{ accessFlags := 26, nameIndex := 320, descriptorIndex := 321, attributes := #[] }, { accessFlags := 130, nameIndex := 200, descriptorIndex := 201, attributes := #[] }, { accessFlags := 2, nameIndex := 33, descriptorIndex := 34, attributes := #[] }, { accessFlags := 26, nameIndex := 15, descriptorIndex := 16, attributes := #[] }, { accessFlags := 2, nameIndex := 11, descriptorIndex := 12, attributes := #[] }, { accessFlags := 2, nameIndex := 19, descriptorIndex := 16, attributes := #[] }, { accessFlags := 130, nameIndex := 211, descriptorIndex := 212, attributes := #[] }, { accessFlags := 26, nameIndex := 22, descriptorIndex := 23, attributes := #[] }, { accessFlags := 2, nameIndex := 26, descriptorIndex := 23, attributes := #[] }, { accessFlags := 26, nameIndex := 327, descriptorIndex := 34, attributes := #[] }, { accessFlags := 26, nameIndex := 328, descriptorIndex := 34, attributes := #[] }, { accessFlags := 26, nameIndex := 329, descriptorIndex := 34, attributes := #[] }, { accessFlags := 26, nameIndex := 330, descriptorIndex := 34, attributes := #[] }, { accessFlags := 26, nameIndex := 304, descriptorIndex := 305, attributes := #[] }, { accessFlags := 4120, nameIndex := 165, descriptorIndex := 166, attributes := #[] }])
  fields := #[{ name := "serialVersionUID", type := .long, accessFlags := 26, slot := 0, constantValue := 0 }, { name := "backtrace", type := (.object "java/lang/Object"), accessFlags := 130, slot := 0, constantValue := 0 }, { name := "detailMessage", type := (.object "java/lang/String"), accessFlags := 2, slot := 1, constantValue := 0 }, { name := "UNASSIGNED_STACK", type := (.array (.object "java/lang/StackTraceElement")), accessFlags := 26, slot := 1, constantValue := 0 }, { name := "cause", type := (.object "java/lang/Throwable"), accessFlags := 2, slot := 2, constantValue := 0 }, { name := "stackTrace", type := (.array (.object "java/lang/StackTraceElement")), accessFlags := 2, slot := 3, constantValue := 0 }, { name := "depth", type := .int, accessFlags := 130, slot := 4, constantValue := 0 }, { name := "SUPPRESSED_SENTINEL", type := (.object "java/util/List"), accessFlags := 26, slot := 2, constantValue := 0 }, { name := "suppressedExceptions", type := (.object "java/util/List"), accessFlags := 2, slot := 5, constantValue := 0 }, { name := "NULL_CAUSE_MESSAGE", type := (.object "java/lang/String"), accessFlags := 26, slot := 3, constantValue := 0 }, { name := "SELF_SUPPRESSION_MESSAGE", type := (.object "java/lang/String"), accessFlags := 26, slot := 4, constantValue := 0 }, { name := "CAUSE_CAPTION", type := (.object "java/lang/String"), accessFlags := 26, slot := 5, constantValue := 0 }, { name := "SUPPRESSED_CAPTION", type := (.object "java/lang/String"), accessFlags := 26, slot := 6, constantValue := 0 }, { name := "EMPTY_THROWABLE_ARRAY", type := (.array (.object "java/lang/Throwable")), accessFlags := 26, slot := 7, constantValue := 0 }, { name := "$assertionsDisabled", type := .boolean, accessFlags := 4120, slot := 8, constantValue := 0 }]
  methods := #[k9m0, k9m1, k9m2, k9m3, k9m4]
  instanceTypes := #[(.object "java/lang/Object"), (.object "java/lang/String"), (.object "java/lang/Throwable"), (.array (.object "java/lang/StackTraceElement")), .int, (.object "java/util/List")]
  staticTypes := #[.long, (.array (.object "java/lang/StackTraceElement")), (.object "java/util/List"), (.object "java/lang/String"), (.object "java/lang/String"), (.object "java/lang/String"), (.object "java/lang/String"), (.array (.object "java/lang/Throwable")), .boolean]
  resolved := Array.replicate 404 none
  statics := some 1 }

def pool10 : Array CpInfo := pool [(2, .class_ 4), (1, u "java/lang/Throwable"), (0, u "<init>"), (0, u "()V"), (0, .methodref 2 8), (0, .nameAndType 5 9), (0, u "(Ljava/lang/String;)V"), (9, .class_ 20), (0, u "java/lang/Exception"), (0, u "serialVersionUID"), (0, u "J")] 17

def k10m0 : Method := { name := "<init>", desc := "()V", sig := { parameters := [], returnType := none }, accessFlags := 1, code := none }
def k10c1 : Code := { maxStack := 2, maxLocals := 2, code := jdk_59_method_2_code, exceptionTable := #[], attributes := #[] }
def k10m1 : Method := { name := "<init>", desc := "(Ljava/lang/String;)V", sig := { parameters := [(.object "java/lang/String")], returnType := none }, accessFlags := 1, code := some k10c1 }
/-- java/lang/Exception -/
def k10 : Class := { plain "java/lang/Exception" (some 9) with
  accessFlags := 33
  interfaces := #[]
  cf := some (fileOf pool10 19 #[] #[{ accessFlags := 1, nameIndex := 5, descriptorIndex := 6, attributes := #[] }, { accessFlags := 1, nameIndex := 5, descriptorIndex := 9, attributes := #[] }] 33 2 #[] #[{ accessFlags := 24, nameIndex := 21, descriptorIndex := 22, attributes := #[] }])
  fields := #[{ name := "serialVersionUID", type := .long, accessFlags := 24, slot := 0, constantValue := 0 }]
  methods := #[k10m0, k10m1]
  instanceTypes := #[(.object "java/lang/Object"), (.object "java/lang/String"), (.object "java/lang/Throwable"), (.array (.object "java/lang/StackTraceElement")), .int, (.object "java/util/List")]
  staticTypes := #[.long]
  resolved := Array.replicate 40 none
  statics := none }

def pool11 : Array CpInfo := pool [(1, .methodref 2 3), (0, .class_ 4), (0, .nameAndType 5 6), (0, u "java/lang/Exception"), (0, u "<init>"), (0, u "(Ljava/lang/String;)V"), (0, .class_ 8), (0, u "com/example/usage_throttle/usagethrottle/io/InvalidPolicyException"), (0, u "serialVersionUID"), (0, u "J")] 7

def k11c0 : Code := { maxStack := 2, maxLocals := 2, code := prog_4_method_1_code, exceptionTable := #[], attributes := #[] }
def k11m0 : Method := { name := "<init>", desc := "(Ljava/lang/String;)V", sig := { parameters := [(.object "java/lang/String")], returnType := none }, accessFlags := 1, code := some k11c0 }
/-- com/example/usage_throttle/usagethrottle/io/InvalidPolicyException -/
def k11 : Class := { plain "com/example/usage_throttle/usagethrottle/io/InvalidPolicyException" (some 10) with
  accessFlags := 33
  interfaces := #[]
  cf := some (fileOf pool11 7 #[] #[{ accessFlags := 1, nameIndex := 5, descriptorIndex := 6, attributes := #[] }] 33 2 #[] #[{ accessFlags := 26, nameIndex := 9, descriptorIndex := 10, attributes := #[] }])
  fields := #[{ name := "serialVersionUID", type := .long, accessFlags := 26, slot := 0, constantValue := 0 }]
  methods := #[k11m0]
  instanceTypes := #[(.object "java/lang/Object"), (.object "java/lang/String"), (.object "java/lang/Throwable"), (.array (.object "java/lang/StackTraceElement")), .int, (.object "java/util/List")]
  staticTypes := #[.long]
  resolved := Array.replicate 18 none
  statics := none }

def pool12 : Array CpInfo := pool [(1, .class_ 2), (0, u "java/lang/Appendable"), (0, .class_ 4), (0, u "java/lang/Object")] 9

/-- java/lang/Appendable -/
def k12 : Class := { plain "java/lang/Appendable" (some 0) with
  accessFlags := 1537
  interfaces := #[]
  cf := some (fileOf pool12 1 #[] #[] 1537 3 #[] #[])
  fields := #[]
  methods := #[]
  instanceTypes := #[]
  staticTypes := #[]
  resolved := Array.replicate 14 none
  statics := none }

def pool13 : Array CpInfo := pool [(1, .class_ 2), (0, u "java/lang/String"), (0, .methodref 4 5), (0, .class_ 6), (0, .nameAndType 7 8), (0, u "java/lang/Object"), (0, u "<init>"), (0, u "()V"), (1, .class_ 12), (1, u "java/lang/AbstractStringBuilder"), (0, u "EMPTYVALUE"), (0, u "[B"), (0, .fieldref 10 16), (0, .nameAndType 17 14), (0, u "value"), (0, .fieldref 1 19), (0, .nameAndType 20 21), (0, u "COMPACT_STRINGS"), (0, u "Z"), (0, .fieldref 10 23), (0, .nameAndType 24 25), (0, u "coder"), (0, u "B"), (6, .methodref 1 33), (0, .nameAndType 34 35), (0, u "length"), (0, u "()I"), (3, .integer 2147483647), (0, .methodref 1 41), (0, .nameAndType 24 42), (0, u "()B"), (2, u "append"), (0, u "(Ljava/lang/String;)Ljava/lang/AbstractStringBuilder;"), (1, .class_ 49), (0, u "java/lang/CharSequence"), (19, u "(Ljava/lang/String;)V"), (5, u "maybeLatin1"), (3, .fieldref 10 80), (0, .nameAndType 81 82), (0, u "count"), (0, u "I"), (2, u "isLatin1"), (0, u "()Z"), (13, .methodref 10 101), (0, .nameAndType 102 103), (0, u "ensureCapacityInternal"), (0, u "(I)V"), (0, .methodref 10 105), (0, .nameAndType 106 107), (0, u "newCapacity"), (0, u "(I)I"), (0, .methodref 109 110), (0, .class_ 111), (0, .nameAndType 112 113), (0, u "java/util/Arrays"), (0, u "copyOf"), (0, u "([BI)[B"), (0, .methodref 115 116), (0, .class_ 117), (0, .nameAndType 118 119), (0, u "jdk/internal/util/ArraysSupport"), (0, u "newLength"), (0, u "(III)I"), (88, .methodref 10 209), (0, .nameAndType 210 211), (0, u "putStringAt"), (0, u "(ILjava/lang/String;)V"), (5, u "inflateIfNeededFor"), (2, .nameAndType 221 222), (0, u "getBytes"), (0, u "([BIB)V"), (174, .methodref 10 398), (0, .nameAndType 217 69), (0, .methodref 1 220), (3, u "()[B"), (40, .class_ 445), (0, u "java/lang/Appendable"), (106, u "getValue")] 56

def k13m0 : Method := { name := "<init>", desc := "()V", sig := { parameters := [], returnType := none }, accessFlags := 0, code := none }
def k13c1 : Code := { maxStack := 2, maxLocals := 2, code := jdk_68_method_2_code, exceptionTable := #[], attributes := #[] }
def k13m1 : Method := { name := "<init>", desc := "(I)V", sig := { parameters := [.int], returnType := none }, accessFlags := 0, code := some k13c1 }
def k13c2 : Code := { maxStack := 1, maxLocals := 1, code := jdk_68_method_6_code, exceptionTable := #[], attributes := #[] }
def k13m2 : Method := { name := "length", desc := "()I", sig := { parameters := [], returnType := some .int }, accessFlags := 1, code := some k13c2 }
def k13c3 : Code := { maxStack := 4, maxLocals := 3, code := jdk_68_method_9_code, exceptionTable := #[], attributes := #[] }
def k13m3 : Method := { name := "ensureCapacityInternal", desc := "(I)V", sig := { parameters := [.int], returnType := none }, accessFlags := 2, code := some k13c3 }
def k13c4 : Code := { maxStack := 5, maxLocals := 6, code := jdk_68_method_10_code, exceptionTable := #[], attributes := #[] }
def k13m4 : Method := { name := "newCapacity", desc := "(I)I", sig := { parameters := [.int], returnType := some .int }, accessFlags := 2, code := some k13c4 }
def k13c5 : Code := { maxStack := 3, maxLocals := 3, code := jdk_68_method_22_code, exceptionTable := #[], attributes := #[] }
def k13m5 : Method := { name := "append", desc := "(Ljava/lang/String;)Ljava/lang/AbstractStringBuilder;", sig := { parameters := [(.object "java/lang/String")], returnType := some (.object "java/lang/AbstractStringBuilder") }, accessFlags := 1, code := some k13c5 }
def k13c6 : Code := { maxStack := 1, maxLocals := 1, code := jdk_68_method_64_code, exceptionTable := #[], attributes := #[] }
def k13m6 : Method := { name := "getValue", desc := "()[B", sig := { parameters := [], returnType := some (.array .byte) }, accessFlags := 16, code := some k13c6 }
def k13c7 : Code := { maxStack := 1, maxLocals := 1, code := jdk_68_method_68_code, exceptionTable := #[], attributes := #[] }
def k13m7 : Method := { name := "isLatin1", desc := "()Z", sig := { parameters := [], returnType := some .boolean }, accessFlags := 16, code := some k13c7 }
def k13c8 : Code := { maxStack := 2, maxLocals := 2, code := jdk_68_method_71_code, exceptionTable := #[], attributes := #[] }
def k13m8 : Method := { name := "inflateIfNeededFor", desc := "(Ljava/lang/String;)V", sig := { parameters := [(.object "java/lang/String")], returnType := none }, accessFlags := 2, code := some k13c8 }
def k13c9 : Code := { maxStack := 4, maxLocals := 3, code := jdk_68_method_73_code, exceptionTable := #[], attributes := #[] }
def k13m9 : Method := { name := "putStringAt", desc := "(ILjava/lang/String;)V", sig := { parameters := [.int, (.object "java/lang/String")], returnType := none }, accessFlags := 2, code := some k13c9 }
/-- java/lang/AbstractStringBuilder -/
def k13 : Class := { plain "java/lang/AbstractStringBuilder" (some 0) with
  accessFlags := 1056
  interfaces := #[12, 4]
  cf := some (fileOf pool13 10 #[] #[{ accessFlags := 0, nameIndex := 7, descriptorIndex := 8, attributes := #[] }, { accessFlags := 0, nameIndex := 7, descriptorIndex := 103, attributes := #[] }, { accessFlags := 1, nameIndex := 34, descriptorIndex := 35, attributes := #[] }, { accessFlags := 2, nameIndex := 102, descriptorIndex := 103, attributes := #[] }, { accessFlags := 2, nameIndex := 106, descriptorIndex := 107, attributes := #[] }, { accessFlags := 1, nameIndex := 45, descriptorIndex := 46, attributes := #[] }, { accessFlags := 16, nameIndex := 552, descriptorIndex := 403, attributes := #[] }, { accessFlags := 16, nameIndex := 85, descriptorIndex := 86, attributes := #[] }, { accessFlags := 2, nameIndex := 217, descriptorIndex := 69, attributes := #[] }, { accessFlags := 2, nameIndex := 210, descriptorIndex := 211, attributes := #[] }] 1056 4 #[444, 48] #[{ accessFlags := 0, nameIndex := 17, descriptorIndex := 14, attributes := #[] }, { accessFlags := 0, nameIndex := 24, descriptorIndex := 25, attributes := #[] }, { accessFlags := 0, nameIndex := 75, descriptorIndex := 21, attributes := #[] }, { accessFlags := 0, nameIndex := 81, descriptorIndex := 82, attributes := #[] }, { accessFlags := 26, nameIndex := 13, descriptorIndex := 14, attributes := #[] }])
  fields := #[{ name := "value", type := (.array .byte), accessFlags := 0, slot := 0, constantValue := 0 }, { name := "coder", type := .byte, accessFlags := 0, slot := 1, constantValue := 0 }, { name := "maybeLatin1", type := .boolean, accessFlags := 0, slot := 2, constantValue := 0 }, { name := "count", type := .int, accessFlags := 0, slot := 3, constantValue := 0 }, { name := "EMPTYVALUE", type := (.array .byte), accessFlags := 26, slot := 0, constantValue := 0 }]
  methods := #[k13m0, k13m1, k13m2, k13m3, k13m4, k13m5, k13m6, k13m7, k13m8, k13m9]
  instanceTypes := #[(.array .byte), .byte, .boolean, .int]
  staticTypes := #[(.array .byte)]
  resolved := Array.replicate 609 none
  statics := none }

def pool14 : Array CpInfo := pool [(1, .methodref 2 3), (0, .class_ 4), (0, .nameAndType 5 6), (0, u "java/lang/AbstractStringBuilder"), (0, u "<init>"), (0, u "(I)V"), (10, .methodref 18 19), (0, .class_ 20), (0, .nameAndType 21 22), (0, u "java/lang/String"), (0, u "valueOf"), (0, u "(Ljava/lang/Object;)Ljava/lang/String;"), (0, .methodref 24 25), (0, .class_ 26), (0, .nameAndType 27 28), (0, u "java/lang/StringBuilder"), (0, u "append"), (0, u "(Ljava/lang/String;)Ljava/lang/StringBuilder;"), (0, .methodref 2 30), (0, .nameAndType 27 31), (0, u "(Ljava/lang/String;)Ljava/lang/AbstractStringBuilder;"), (105, .methodref 18 138), (0, .nameAndType 5 139), (0, u "(Ljava/lang/StringBuilder;)V"), (5, u "()V"), (10, u "()I"), (150, u "(Ljava/lang/Object;)Ljava/lang/StringBuilder;"), (35, .methodref 2 344), (0, .nameAndType 345 156), (0, u "length"), (3, .class_ 350), (0, u "java/lang/Appendable"), (0, .class_ 352), (0, u "java/io/Serializable"), (0, .class_ 354), (0, u "java/lang/Comparable"), (0, .class_ 356), (0, u "java/lang/CharSequence"), (0, u "serialVersionUID"), (0, u "J"), (40, u "toString"), (0, u "()Ljava/lang/String;")] 21

def k14c0 : Code := { maxStack := 2, maxLocals := 1, code := jdk_67_method_1_code, exceptionTable := #[], attributes := #[] }
def k14m0 : Method := { name := "<init>", desc := "()V", sig := { parameters := [], returnType := none }, accessFlags := 1, code := some k14c0 }
def k14c1 : Code := { maxStack := 2, maxLocals := 2, code := jdk_67_method_6_code, exceptionTable := #[], attributes := #[] }
def k14m1 : Method := { name := "append", desc := "(Ljava/lang/Object;)Ljava/lang/StringBuilder;", sig := { parameters := [(.object "java/lang/Object")], returnType := some (.object "java/lang/StringBuilder") }, accessFlags := 1, code := some k14c1 }
def k14c2 : Code := { maxStack := 2, maxLocals := 2, code := jdk_67_method_7_code, exceptionTable := #[], attributes := #[] }
def k14m2 : Method := { name := "append", desc := "(Ljava/lang/String;)Ljava/lang/StringBuilder;", sig := { parameters := [(.object "java/lang/String")], returnType := some (.object "java/lang/StringBuilder") }, accessFlags := 1, code := some k14c2 }
def k14c3 : Code := { maxStack := 3, maxLocals := 1, code := jdk_67_method_42_code, exceptionTable := #[], attributes := #[] }
def k14m3 : Method := { name := "toString", desc := "()Ljava/lang/String;", sig := { parameters := [], returnType := some (.object "java/lang/String") }, accessFlags := 1, code := some k14c3 }
def k14c4 : Code := { maxStack := 1, maxLocals := 1, code := jdk_67_method_93_code, exceptionTable := #[], attributes := #[] }
def k14m4 : Method := { name := "length", desc := "()I", sig := { parameters := [], returnType := some .int }, accessFlags := 4161, code := some k14c4 }
/-- java/lang/StringBuilder -/
def k14 : Class := { plain "java/lang/StringBuilder" (some 13) with
  accessFlags := 49
  interfaces := #[12, 2, 3, 4]
  cf := some (fileOf pool14 24 #[] #[{ accessFlags := 1, nameIndex := 5, descriptorIndex := 145, attributes := #[] }, { accessFlags := 1, nameIndex := 27, descriptorIndex := 307, attributes := #[] }, { accessFlags := 1, nameIndex := 27, descriptorIndex := 28, attributes := #[] }, { accessFlags := 1, nameIndex := 399, descriptorIndex := 400, attributes := #[] }, { accessFlags := 4161, nameIndex := 345, descriptorIndex := 156, attributes := #[] }] 49 2 #[349, 351, 353, 355] #[{ accessFlags := 24, nameIndex := 357, descriptorIndex := 358, attributes := #[] }])
  fields := #[{ name := "serialVersionUID", type := .long, accessFlags := 24, slot := 0, constantValue := 0 }]
  methods := #[k14m0, k14m1, k14m2, k14m3, k14m4]
  instanceTypes := #[(.array .byte), .byte, .boolean, .int]
  staticTypes := #[.long]
  resolved := Array.replicate 422 none
  statics := none }

def pool15 : Array CpInfo := pool [(2, .class_ 4), (1, u "java/lang/Object"), (0, u "<init>"), (0, u "()V"), (1, .class_ 10), (1, u "java/lang/System"), (0, u "allowSecurityManager"), (0, u "I"), (16, u "cons"), (0, u "Ljava/io/Console;"), (77, .class_ 110), (1, u "java/lang/System$CallersHolder"), (43, u "initialErrStream"), (0, u "Ljava/io/PrintStream;"), (19, u "security"), (0, u "Ljava/lang/SecurityManager;"), (31, .class_ 209), (0, u "java/lang/System$1"), (7, u "props"), (0, u "Ljava/util/Properties;"), (2, u "lineSeparator"), (0, u "Ljava/lang/String;"), (96, .class_ 321), (1, u "java/lang/System$LoggerFinder"), (5, .class_ 328), (0, u "java/lang/System$Logger"), (67, u "err"), (2, u "out"), (91, u "notSupportedJnuEncoding"), (15, u "in"), (17, u "initialIn"), (0, u "Ljava/io/InputStream;"), (35, u "bootLayer"), (0, u "Ljava/lang/ModuleLayer;"), (99, .class_ 664), (0, u "java/lang/System$2"), (9, u "NEVER"), (2, u "MAYBE"), (49, u "arraycopy"), (0, u "(Ljava/lang/Object;ILjava/lang/Object;II)V"), (72, .class_ 802), (0, u "java/lang/System$Logger$Level")] 31

def k15m0 : Method := { name := "<init>", desc := "()V", sig := { parameters := [], returnType := none }, accessFlags := 2, code := none }
def k15m1 : Method := { name := "arraycopy", desc := "(Ljava/lang/Object;ILjava/lang/Object;II)V", sig := { parameters := [(.object "java/lang/Object"), .int, (.object "java/lang/Object"), .int, .int], returnType := none }, accessFlags := 265, code := none }
/-- java/lang/System -/
def k15 : Class := { plain "java/lang/System" (some 0) with
  accessFlags := 49
  interfaces := #[]
  cf := some (fileOf pool15 8 #[.nestMembers #[319, 327, 801, 108, 663, 208]] #[{ accessFlags := 2, nameIndex := 5, descriptorIndex := 6, attributes := #[] }, { accessFlags := 265, nameIndex := 727, descriptorIndex := 728, attributes := #[] }] 49 2 #[] #[{ accessFlags := 25, nameIndex := 507, descriptorIndex := 526, attributes := #[] }, { accessFlags := 25, nameIndex := 399, descriptorIndex := 155, attributes := #[] }, { accessFlags := 25, nameIndex := 396, descriptorIndex := 155, attributes := #[] }, { accessFlags := 10, nameIndex := 525, descriptorIndex := 526, attributes := #[] }, { accessFlags := 26, nameIndex := 674, descriptorIndex := 12, attributes := #[] }, { accessFlags := 26, nameIndex := 677, descriptorIndex := 12, attributes := #[] }, { accessFlags := 10, nameIndex := 11, descriptorIndex := 12, attributes := #[] }, { accessFlags := 74, nameIndex := 175, descriptorIndex := 176, attributes := #[] }, { accessFlags := 10, nameIndex := 491, descriptorIndex := 222, attributes := #[] }, { accessFlags := 74, nameIndex := 29, descriptorIndex := 30, attributes := #[] }, { accessFlags := 74, nameIndex := 154, descriptorIndex := 155, attributes := #[] }, { accessFlags := 10, nameIndex := 217, descriptorIndex := 218, attributes := #[] }, { accessFlags := 10, nameIndex := 221, descriptorIndex := 222, attributes := #[] }, { accessFlags := 8, nameIndex := 562, descriptorIndex := 563, attributes := #[] }])
  fields := #[{ name := "in", type := (.object "java/io/InputStream"), accessFlags := 25, slot := 0, constantValue := 0 }, { name := "out", type := (.object "java/io/PrintStream"), accessFlags := 25, slot := 1, constantValue := 0 }, { name := "err", type := (.object "java/io/PrintStream"), accessFlags := 25, slot := 2, constantValue := 0 }, { name := "initialIn", type := (.object "java/io/InputStream"), accessFlags := 10, slot := 3, constantValue := 0 }, { name := "NEVER", type := .int, accessFlags := 26, slot := 4, constantValue := 0 }, { name := "MAYBE", type := .int, accessFlags := 26, slot := 5, constantValue := 0 }, { name := "allowSecurityManager", type := .int, accessFlags := 10, slot := 6, constantValue := 0 }, { name := "security", type := (.object "java/lang/SecurityManager"), accessFlags := 74, slot := 7, constantValue := 0 }, { name := "notSupportedJnuEncoding", type := (.object "java/lang/String"), accessFlags := 10, slot := 8, constantValue := 0 }, { name := "cons", type := (.object "java/io/Console"), accessFlags := 74, slot := 9, constantValue := 0 }, { name := "initialErrStream", type := (.object "java/io/PrintStream"), accessFlags := 74, slot := 10, constantValue := 0 }, { name := "props", type := (.object "java/util/Properties"), accessFlags := 10, slot := 11, constantValue := 0 }, { name := "lineSeparator", type := (.object "java/lang/String"), accessFlags := 10, slot := 12, constantValue := 0 }, { name := "bootLayer", type := (.object "java/lang/ModuleLayer"), accessFlags := 8, slot := 13, constantValue := 0 }]
  methods := #[k15m0, k15m1]
  instanceTypes := #[]
  staticTypes := #[(.object "java/io/InputStream"), (.object "java/io/PrintStream"), (.object "java/io/PrintStream"), (.object "java/io/InputStream"), .int, .int, .int, (.object "java/lang/SecurityManager"), (.object "java/lang/String"), (.object "java/io/Console"), (.object "java/io/PrintStream"), (.object "java/util/Properties"), (.object "java/lang/String"), (.object "java/lang/ModuleLayer")]
  resolved := Array.replicate 834 none
  statics := none }

def pool16 : Array CpInfo := pool [(2, .class_ 4), (1, u "java/lang/Object"), (0, u "<init>"), (0, u "()V"), (7, .class_ 16), (1, u "java/util/Arrays"), (57, .class_ 76), (1, u "java/util/Arrays$NaturalOrder"), (32, u "()Ljava/lang/Object;"), (3, .class_ 115), (1, u "java/util/Arrays$LegacyMergeSort"), (1, u "Z"), (10, .nameAndType 129 109), (0, u "clone"), (9, u "copyOfRange"), (10, .methodref 151 152), (0, .class_ 153), (0, .nameAndType 154 155), (0, u "java/lang/System"), (0, u "arraycopy"), (0, u "(Ljava/lang/Object;ILjava/lang/Object;II)V"), (146, u "copyOf"), (1, .methodref 305 306), (0, .class_ 307), (0, .nameAndType 308 309), (0, u "java/lang/Math"), (0, u "min"), (0, u "(II)I"), (0, .methodref 311 128), (0, .class_ 312), (0, u "[B"), (26, .methodref 14 340), (0, .nameAndType 341 342), (0, u "copyOfRangeByte"), (0, u "([BII)[B"), (0, .methodref 14 344), (0, .nameAndType 345 346), (0, u "checkLength"), (0, u "(II)V"), (28, .class_ 376), (0, u "java/util/Arrays$ArrayList"), (68, u "$assertionsDisabled"), (269, u "MIN_ARRAY_SORT_GRAN"), (0, u "I"), (2, u "INSERTIONSORT_THRESHOLD"), (149, u "([BI)[B"), (105, .class_ 976), (0, u "java/util/Arrays$ArrayItr")] 52

def k16m0 : Method := { name := "<init>", desc := "()V", sig := { parameters := [], returnType := none }, accessFlags := 2, code := none }
def k16c1 : Code := { maxStack := 6, maxLocals := 3, code := jdk_65_method_121_code, exceptionTable := #[], attributes := #[] }
def k16m1 : Method := { name := "copyOf", desc := "([BI)[B", sig := { parameters := [(.array .byte), .int], returnType := some (.array .byte) }, accessFlags := 9, code := some k16c1 }
def k16c2 : Code := { maxStack := 4, maxLocals := 2, code := jdk_65_method_131_code, exceptionTable := #[], attributes := #[] }
def k16m2 : Method := { name := "checkLength", desc := "(II)V", sig := { parameters := [.int, .int], returnType := none }, accessFlags := 10, code := some k16c2 }
def k16c3 : Code := { maxStack := 3, maxLocals := 3, code := jdk_65_method_132_code, exceptionTable := #[], attributes := #[] }
def k16m3 : Method := { name := "copyOfRange", desc := "([BII)[B", sig := { parameters := [(.array .byte), .int, .int], returnType := some (.array .byte) }, accessFlags := 9, code := some k16c3 }
def k16c4 : Code := { maxStack := 6, maxLocals := 5, code := jdk_65_method_133_code, exceptionTable := #[], attributes := #[] }
def k16m4 : Method := { name := "copyOfRangeByte", desc := "([BII)[B", sig := { parameters := [(.array .byte), .int, .int], returnType := some (.array .byte) }, accessFlags := 10, code := some k16c4 }
/-- java/util/Arrays -/
def k16 : Class := { plain "java/util/Arrays" (some 0) with
  accessFlags := 49
  interfaces := #[]
  cf := some (fileOf pool16 14 #[.nestMembers #[975, 375, 113, 74]] #[{ accessFlags := 2, nameIndex := 5, descriptorIndex := 6, attributes := #[] }, { accessFlags := 9, nameIndex := 302, descriptorIndex := 869, attributes := #[] }, { accessFlags := 10, nameIndex := 345, descriptorIndex := 346, attributes := #[] }, { accessFlags := 9, nameIndex := 139, descriptorIndex := 342, attributes := #[] }, { accessFlags := 10, nameIndex := 341, descriptorIndex := 342, attributes := #[] }] 49 2 #[] #[{ accessFlags := 26, nameIndex := 715, descriptorIndex := 716, attributes := #[] }, { accessFlags := 26, nameIndex := 719, descriptorIndex := 716, attributes := #[] }, { accessFlags := 4120, nameIndex := 445, descriptorIndex := 117, attributes := #[] }])
  fields := #[{ name := "MIN_ARRAY_SORT_GRAN", type := .int, accessFlags := 26, slot := 0, constantValue := 0 }, { name := "INSERTIONSORT_THRESHOLD", type := .int, accessFlags := 26, slot := 1, constantValue := 0 }, { name := "$assertionsDisabled", type := .boolean, accessFlags := 4120, slot := 2, constantValue := 0 }]
  methods := #[k16m0, k16m1, k16m2, k16m3, k16m4]
  instanceTypes := #[]
  staticTypes := #[.int, .int, .boolean]
  resolved := Array.replicate 1029 none
  statics := none }

def pool17 : Array CpInfo := pool [(1, .class_ 2), (0, u "java/lang/Cloneable"), (0, .class_ 4), (0, u "java/lang/Object")] 2

/-- java/lang/Cloneable -/
def k17 : Class := { plain "java/lang/Cloneable" (some 0) with
  accessFlags := 1537
  interfaces := #[]
  cf := some (fileOf pool17 1 #[] #[] 1537 3 #[] #[])
  fields := #[]
  methods := #[]
  instanceTypes := #[]
  staticTypes := #[]
  resolved := Array.replicate 7 none
  statics := none }

def pool18 : Array CpInfo := pool [(6, .class_ 8), (1, u "java/lang/Object"), (0, u "<init>"), (0, u "()V"), (1, .class_ 14), (1, u "java/lang/StringUTF16"), (31, u "$assertionsDisabled"), (0, u "Z"), (13, u "HI_BYTE_SHIFT"), (0, u "I"), (2, u "LO_BYTE_SHIFT"), (49, .methodref 12 116), (0, .nameAndType 117 118), (0, u "compress"), (0, u "([CI[BII)I"), (3, u "([CII)[B"), (138, u "coderFromArrayLen"), (0, u "([BI)B"), (106, .class_ 371), (1, u "java/lang/StringUTF16$LinesSpliterator"), (58, u "MAX_LENGTH"), (196, .class_ 628), (0, u "java/lang/StringUTF16$CodePointsSpliterator"), (0, .class_ 630), (0, u "java/lang/StringUTF16$CharsSpliterator")] 4

def k18m0 : Method := { name := "<init>", desc := "()V", sig := { parameters := [], returnType := none }, accessFlags := 0, code := none }
def k18c1 : Code := { maxStack := 2, maxLocals := 2, code := jdk_52_method_15_code, exceptionTable := #[], attributes := #[] }
def k18m1 : Method := { name := "coderFromArrayLen", desc := "([BI)B", sig := { parameters := [(.array .byte), .int], returnType := some .byte }, accessFlags := 8, code := some k18c1 }
def k18c2 : Code := { maxStack := 5, maxLocals := 6, code := jdk_52_method_16_code, exceptionTable := #[], attributes := #[] }
def k18m2 : Method := { name := "compress", desc := "([CII)[B", sig := { parameters := [(.array .char), .int, .int], returnType := some (.array .byte) }, accessFlags := 9, code := some k18c2 }
def k18c3 : Code := { maxStack := 3, maxLocals := 7, code := jdk_52_method_21_code, exceptionTable := #[], attributes := #[] }
def k18m3 : Method := { name := "compress", desc := "([CI[BII)I", sig := { parameters := [(.array .char), .int, (.array .byte), .int, .int], returnType := some .int }, accessFlags := 9, code := some k18c3 }
/-- java/lang/StringUTF16 -/
def k18 : Class := { plain "java/lang/StringUTF16" (some 0) with
  accessFlags := 48
  interfaces := #[]
  cf := some (fileOf pool18 12 #[.nestMembers #[627, 629, 369]] #[{ accessFlags := 0, nameIndex := 9, descriptorIndex := 10, attributes := #[] }, { accessFlags := 8, nameIndex := 261, descriptorIndex := 262, attributes := #[] }, { accessFlags := 9, nameIndex := 117, descriptorIndex := 122, attributes := #[] }, { accessFlags := 9, nameIndex := 117, descriptorIndex := 118, attributes := #[] }] 48 6 #[] #[{ accessFlags := 26, nameIndex := 61, descriptorIndex := 62, attributes := #[] }, { accessFlags := 26, nameIndex := 65, descriptorIndex := 62, attributes := #[] }, { accessFlags := 24, nameIndex := 430, descriptorIndex := 62, attributes := #[] }, { accessFlags := 4120, nameIndex := 46, descriptorIndex := 47, attributes := #[] }])
  fields := #[{ name := "HI_BYTE_SHIFT", type := .int, accessFlags := 26, slot := 0, constantValue := 0 }, { name := "LO_BYTE_SHIFT", type := .int, accessFlags := 26, slot := 1, constantValue := 0 }, { name := "MAX_LENGTH", type := .int, accessFlags := 24, slot := 2, constantValue := 0 }, { name := "$assertionsDisabled", type := .boolean, accessFlags := 4120, slot := 3, constantValue := 0 }]
  methods := #[k18m0, k18m1, k18m2, k18m3]
  instanceTypes := #[]
  staticTypes := #[.int, .int, .int, .boolean]
  resolved := Array.replicate 635 none
  statics := none }

def pool19 : Array CpInfo := pool [(4, .class_ 6), (1, u "java/lang/Object"), (0, u "<init>"), (0, u "()V"), (5, .class_ 16), (1, u "java/lang/StringLatin1"), (104, u "$assertionsDisabled"), (0, u "Z"), (98, .class_ 223), (1, u "java/lang/StringLatin1$LinesSpliterator"), (57, u "equals"), (0, u "([B[B)Z"), (107, .class_ 391), (0, u "java/lang/StringLatin1$CharsSpliterator")] 3

def k19m0 : Method := { name := "<init>", desc := "()V", sig := { parameters := [], returnType := none }, accessFlags := 0, code := none }
def k19c1 : Code := { maxStack := 3, maxLocals := 3, code := jdk_43_method_13_code, exceptionTable := #[], attributes := #[] }
def k19m1 : Method := { name := "equals", desc := "([B[B)Z", sig := { parameters := [(.array .byte), (.array .byte)], returnType := some .boolean }, accessFlags := 9, code := some k19c1 }
/-- java/lang/StringLatin1 -/
def k19 : Class := { plain "java/lang/StringLatin1" (some 0) with
  accessFlags := 48
  interfaces := #[]
  cf := some (fileOf pool19 14 #[.nestMembers #[390, 221]] #[{ accessFlags := 0, nameIndex := 7, descriptorIndex := 8, attributes := #[] }, { accessFlags := 9, nameIndex := 281, descriptorIndex := 282, attributes := #[] }] 48 4 #[] #[{ accessFlags := 4120, nameIndex := 121, descriptorIndex := 122, attributes := #[] }])
  fields := #[{ name := "$assertionsDisabled", type := .boolean, accessFlags := 4120, slot := 0, constantValue := 0 }]
  methods := #[k19m0, k19m1]
  instanceTypes := #[]
  staticTypes := #[.boolean]
  resolved := Array.replicate 395 none
  statics := none }

def pool20 : Array CpInfo := pool [(9, u "<init>"), (6, .class_ 18), (1, u "java/lang/Object"), (0, u "()V"), (1, .class_ 23), (1, u "jdk/internal/util/ArraysSupport"), (0, u "LOG2_ARRAY_LONG_INDEX_SCALE"), (0, u "I"), (2, u "U"), (0, u "Ljdk/internal/misc/Unsafe;"), (8, u "BIG_ENDIAN"), (0, u "Z"), (8, u "LOG2_BYTE_BIT_SIZE"), (4, u "LOG2_ARRAY_INT_INDEX_SCALE"), (54, u "JLA"), (0, u "Ljdk/internal/access/JavaLangAccess;"), (11, u "LOG2_ARRAY_BOOLEAN_INDEX_SCALE"), (9, u "LOG2_ARRAY_BYTE_INDEX_SCALE"), (5, u "LOG2_ARRAY_CHAR_INDEX_SCALE"), (5, u "LOG2_ARRAY_SHORT_INDEX_SCALE"), (18, u "LOG2_ARRAY_FLOAT_INDEX_SCALE"), (24, u "LOG2_ARRAY_DOUBLE_INDEX_SCALE"), (6, .methodref 195 196), (0, .class_ 197), (0, .nameAndType 198 199), (0, u "java/lang/Math"), (0, u "max"), (0, u "(II)I"), (0, .integer 2147483639), (76, u "T_BOOLEAN"), (2, u "T_CHAR"), (1, u "T_FLOAT"), (1, u "T_DOUBLE"), (1, u "T_BYTE"), (1, u "T_SHORT"), (1, u "T_INT"), (1, u "T_LONG"), (1, u "SOFT_MAX_ARRAY_LENGTH"), (56, u "newLength"), (0, u "(III)I")] 25

def k20m0 : Method := { name := "<init>", desc := "()V", sig := { parameters := [], returnType := none }, accessFlags := 2, code := none }
def k20c1 : Code := { maxStack := 3, maxLocals := 4, code := jdk_48_method_27_code, exceptionTable := #[], attributes := #[] }
def k20m1 : Method := { name := "newLength", desc := "(III)I", sig := { parameters := [.int, .int, .int], returnType := some .int }, accessFlags := 9, code := some k20c1 }
/-- jdk/internal/util/ArraysSupport -/
def k20 : Class := { plain "jdk/internal/util/ArraysSupport" (some 0) with
  accessFlags := 33
  interfaces := #[]
  cf := some (fileOf pool20 21 #[] #[{ accessFlags := 2, nameIndex := 9, descriptorIndex := 19, attributes := #[] }, { accessFlags := 9, nameIndex := 351, descriptorIndex := 352, attributes := #[] }] 33 16 #[] #[{ accessFlags := 24, nameIndex := 28, descriptorIndex := 29, attributes := #[] }, { accessFlags := 26, nameIndex := 38, descriptorIndex := 39, attributes := #[] }, { accessFlags := 25, nameIndex := 121, descriptorIndex := 25, attributes := #[] }, { accessFlags := 25, nameIndex := 131, descriptorIndex := 25, attributes := #[] }, { accessFlags := 25, nameIndex := 137, descriptorIndex := 25, attributes := #[] }, { accessFlags := 25, nameIndex := 143, descriptorIndex := 25, attributes := #[] }, { accessFlags := 25, nameIndex := 53, descriptorIndex := 25, attributes := #[] }, { accessFlags := 25, nameIndex := 24, descriptorIndex := 25, attributes := #[] }, { accessFlags := 25, nameIndex := 162, descriptorIndex := 25, attributes := #[] }, { accessFlags := 25, nameIndex := 187, descriptorIndex := 25, attributes := #[] }, { accessFlags := 26, nameIndex := 48, descriptorIndex := 25, attributes := #[] }, { accessFlags := 25, nameIndex := 277, descriptorIndex := 25, attributes := #[] }, { accessFlags := 25, nameIndex := 280, descriptorIndex := 25, attributes := #[] }, { accessFlags := 25, nameIndex := 282, descriptorIndex := 25, attributes := #[] }, { accessFlags := 25, nameIndex := 284, descriptorIndex := 25, attributes := #[] }, { accessFlags := 25, nameIndex := 286, descriptorIndex := 25, attributes := #[] }, { accessFlags := 25, nameIndex := 288, descriptorIndex := 25, attributes := #[] }, { accessFlags := 25, nameIndex := 290, descriptorIndex := 25, attributes := #[] }, { accessFlags := 25, nameIndex := 292, descriptorIndex := 25, attributes := #[] }, { accessFlags := 26, nameIndex := 108, descriptorIndex := 109, attributes := #[] }, { accessFlags := 25, nameIndex := 294, descriptorIndex := 25, attributes := #[] }])
  fields := #[{ name := "U", type := (.object "jdk/internal/misc/Unsafe"), accessFlags := 24, slot := 0, constantValue := 0 }, { name := "BIG_ENDIAN", type := .boolean, accessFlags := 26, slot := 1, constantValue := 0 }, { name := "LOG2_ARRAY_BOOLEAN_INDEX_SCALE", type := .int, accessFlags := 25, slot := 2, constantValue := 0 }, { name := "LOG2_ARRAY_BYTE_INDEX_SCALE", type := .int, accessFlags := 25, slot := 3, constantValue := 0 }, { name := "LOG2_ARRAY_CHAR_INDEX_SCALE", type := .int, accessFlags := 25, slot := 4, constantValue := 0 }, { name := "LOG2_ARRAY_SHORT_INDEX_SCALE", type := .int, accessFlags := 25, slot := 5, constantValue := 0 }, { name := "LOG2_ARRAY_INT_INDEX_SCALE", type := .int, accessFlags := 25, slot := 6, constantValue := 0 }, { name := "LOG2_ARRAY_LONG_INDEX_SCALE", type := .int, accessFlags := 25, slot := 7, constantValue := 0 }, { name := "LOG2_ARRAY_FLOAT_INDEX_SCALE", type := .int, accessFlags := 25, slot := 8, constantValue := 0 }, { name := "LOG2_ARRAY_DOUBLE_INDEX_SCALE", type := .int, accessFlags := 25, slot := 9, constantValue := 0 }, { name := "LOG2_BYTE_BIT_SIZE", type := .int, accessFlags := 26, slot := 10, constantValue := 0 }, { name := "T_BOOLEAN", type := .int, accessFlags := 25, slot := 11, constantValue := 0 }, { name := "T_CHAR", type := .int, accessFlags := 25, slot := 12, constantValue := 0 }, { name := "T_FLOAT", type := .int, accessFlags := 25, slot := 13, constantValue := 0 }, { name := "T_DOUBLE", type := .int, accessFlags := 25, slot := 14, constantValue := 0 }, { name := "T_BYTE", type := .int, accessFlags := 25, slot := 15, constantValue := 0 }, { name := "T_SHORT", type := .int, accessFlags := 25, slot := 16, constantValue := 0 }, { name := "T_INT", type := .int, accessFlags := 25, slot := 17, constantValue := 0 }, { name := "T_LONG", type := .int, accessFlags := 25, slot := 18, constantValue := 0 }, { name := "JLA", type := (.object "jdk/internal/access/JavaLangAccess"), accessFlags := 26, slot := 19, constantValue := 0 }, { name := "SOFT_MAX_ARRAY_LENGTH", type := .int, accessFlags := 25, slot := 20, constantValue := 0 }]
  methods := #[k20m0, k20m1]
  instanceTypes := #[]
  staticTypes := #[(.object "jdk/internal/misc/Unsafe"), .boolean, .int, .int, .int, .int, .int, .int, .int, .int, .int, .int, .int, .int, .int, .int, .int, .int, .int, (.object "jdk/internal/access/JavaLangAccess"), .int]
  resolved := Array.replicate 378 none
  statics := none }

def pool21 : Array CpInfo := pool [(1, .class_ 2), (0, u "java/lang/Math"), (1, .class_ 6), (1, u "java/lang/Object"), (0, u "<init>"), (0, u "()V"), (89, .class_ 100), (1, u "java/lang/Math$RandomNumberGeneratorHolder"), (71, u "negativeZeroFloatBits"), (0, u "J"), (2, u "negativeZeroDoubleBits"), (21, u "max"), (2, u "min"), (43, u "$assertionsDisabled"), (0, u "Z"), (88, u "(II)I"), (2, u "twoToTheDoubleScaleDown"), (0, u "D"), (4, u "twoToTheDoubleScaleUp"), (9, u "E"), (3, u "PI"), (2, u "TAU"), (2, u "DEGREES_TO_RADIANS"), (0, u "RADIANS_TO_DEGREES")] 94

def k21m0 : Method := { name := "<init>", desc := "()V", sig := { parameters := [], returnType := none }, accessFlags := 2, code := none }
def k21c1 : Code := { maxStack := 2, maxLocals := 2, code := jdk_29_method_65_code, exceptionTable := #[], attributes := #[] }
def k21m1 : Method := { name := "max", desc := "(II)I", sig := { parameters := [.int, .int], returnType := some .int }, accessFlags := 9, code := some k21c1 }
def k21c2 : Code := { maxStack := 2, maxLocals := 2, code := jdk_29_method_69_code, exceptionTable := #[], attributes := #[] }
def k21m2 : Method := { name := "min", desc := "(II)I", sig := { parameters := [.int, .int], returnType := some .int }, accessFlags := 9, code := some k21c2 }
/-- java/lang/Math -/
def k21 : Class := { plain "java/lang/Math" (some 0) with
  accessFlags := 49
  interfaces := #[]
  cf := some (fileOf pool21 1 #[.nestMembers #[98]] #[{ accessFlags := 2, nameIndex := 7, descriptorIndex := 8, attributes := #[] }, { accessFlags := 9, nameIndex := 198, descriptorIndex := 335, attributes := #[] }, { accessFlags := 9, nameIndex := 201, descriptorIndex := 335, attributes := #[] }] 49 4 #[] #[{ accessFlags := 25, nameIndex := 354, descriptorIndex := 339, attributes := #[] }, { accessFlags := 25, nameIndex := 358, descriptorIndex := 339, attributes := #[] }, { accessFlags := 25, nameIndex := 361, descriptorIndex := 339, attributes := #[] }, { accessFlags := 26, nameIndex := 364, descriptorIndex := 339, attributes := #[] }, { accessFlags := 26, nameIndex := 365, descriptorIndex := 339, attributes := #[] }, { accessFlags := 26, nameIndex := 172, descriptorIndex := 173, attributes := #[] }, { accessFlags := 26, nameIndex := 176, descriptorIndex := 173, attributes := #[] }, { accessFlags := 8, nameIndex := 344, descriptorIndex := 339, attributes := #[] }, { accessFlags := 8, nameIndex := 338, descriptorIndex := 339, attributes := #[] }, { accessFlags := 4120, nameIndex := 245, descriptorIndex := 246, attributes := #[] }])
  fields := #[{ name := "E", type := .double, accessFlags := 25, slot := 0, constantValue := 0 }, { name := "PI", type := .double, accessFlags := 25, slot := 1, constantValue := 0 }, { name := "TAU", type := .double, accessFlags := 25, slot := 2, constantValue := 0 }, { name := "DEGREES_TO_RADIANS", type := .double, accessFlags := 26, slot := 3, constantValue := 0 }, { name := "RADIANS_TO_DEGREES", type := .double, accessFlags := 26, slot := 4, constantValue := 0 }, { name := "negativeZeroFloatBits", type := .long, accessFlags := 26, slot := 5, constantValue := 0 }, { name := "negativeZeroDoubleBits", type := .long, accessFlags := 26, slot := 6, constantValue := 0 }, { name := "twoToTheDoubleScaleUp", type := .double, accessFlags := 8, slot := 7, constantValue := 0 }, { name := "twoToTheDoubleScaleDown", type := .double, accessFlags := 8, slot := 8, constantValue := 0 }, { name := "$assertionsDisabled", type := .boolean, accessFlags := 4120, slot := 9, constantValue := 0 }]
  methods := #[k21m0, k21m1, k21m2]
  instanceTypes := #[]
  staticTypes := #[.double, .double, .double, .double, .double, .long, .long, .double, .double, .boolean]
  resolved := Array.replicate 460 none
  statics := none }

def pool22 : Array CpInfo := pool [(2, .class_ 4), (1, u "java/lang/Object"), (0, u "<init>"), (0, u "()V"), (17, .class_ 26), (1, u "jdk/internal/util/Preconditions"), (28, .class_ 56), (0, u "jdk/internal/util/Preconditions$4"), (57, .class_ 115), (0, u "jdk/internal/util/Preconditions$1"), (7, u "SIOOBE_FORMATTER"), (0, u "Ljava/util/function/BiFunction;"), (0, .class_ 126), (0, u "jdk/internal/util/Preconditions$2"), (3, u "AIOOBE_FORMATTER"), (0, .class_ 132), (0, u "jdk/internal/util/Preconditions$3"), (3, u "IOOBE_FORMATTER")] 57

def k22m0 : Method := { name := "<init>", desc := "()V", sig := { parameters := [], returnType := none }, accessFlags := 1, code := none }
/-- jdk/internal/util/Preconditions -/
def k22 : Class := { plain "jdk/internal/util/Preconditions" (some 0) with
  accessFlags := 33
  interfaces := #[]
  cf := some (fileOf pool22 24 #[.nestMembers #[55, 131, 125, 114]] #[{ accessFlags := 1, nameIndex := 5, descriptorIndex := 6, attributes := #[] }] 33 2 #[] #[{ accessFlags := 25, nameIndex := 123, descriptorIndex := 124, attributes := #[] }, { accessFlags := 25, nameIndex := 130, descriptorIndex := 124, attributes := #[] }, { accessFlags := 25, nameIndex := 136, descriptorIndex := 124, attributes := #[] }])
  fields := #[{ name := "SIOOBE_FORMATTER", type := (.object "java/util/function/BiFunction"), accessFlags := 25, slot := 0, constantValue := 0 }, { name := "AIOOBE_FORMATTER", type := (.object "java/util/function/BiFunction"), accessFlags := 25, slot := 1, constantValue := 0 }, { name := "IOOBE_FORMATTER", type := (.object "java/util/function/BiFunction"), accessFlags := 25, slot := 2, constantValue := 0 }]
  methods := #[k22m0]
  instanceTypes := #[]
  staticTypes := #[(.object "java/util/function/BiFunction"), (.object "java/util/function/BiFunction"), (.object "java/util/function/BiFunction")]
  resolved := Array.replicate 194 none
  statics := some 2 }

def pool23 : Array CpInfo := pool [(2, .class_ 4), (1, u "java/lang/Object"), (0, u "<init>"), (0, u "()V"), (12, .class_ 20), (0, u "java/util/Collections"), (63, u "r"), (0, u "Ljava/util/Random;"), (80, .class_ 167), (0, u "java/util/Collections$UnmodifiableCollection"), (6, .class_ 175), (0, u "java/util/Collections$UnmodifiableSequencedCollection"), (6, .class_ 183), (0, u "java/util/Collections$UnmodifiableSet"), (6, .class_ 191), (0, u "java/util/Collections$UnmodifiableSequencedSet"), (6, .class_ 199), (0, u "java/util/Collections$UnmodifiableSortedSet"), (6, .class_ 207), (0, u "java/util/Collections$UnmodifiableNavigableSet"), (4, .class_ 213), (0, u "java/util/Collections$UnmodifiableList"), (1, .class_ 216), (0, u "java/util/Collections$UnmodifiableRandomAccessList"), (6, .class_ 224), (0, u "java/util/Collections$UnmodifiableMap"), (6, .class_ 232), (0, u "java/util/Collections$UnmodifiableSequencedMap"), (4, .class_ 238), (0, u "java/util/Collections$UnmodifiableSortedMap"), (6, .class_ 246), (0, u "java/util/Collections$UnmodifiableNavigableMap"), (3, .class_ 251), (0, u "java/util/Collections$SynchronizedCollection"), (4, .class_ 257), (0, u "java/util/Collections$SynchronizedSet"), (4, .class_ 263), (0, u "java/util/Collections$SynchronizedSortedSet"), (1, .class_ 266), (0, u "java/util/Collections$SynchronizedNavigableSet"), (1, .class_ 269), (0, u "java/util/Collections$SynchronizedRandomAccessList"), (1, .class_ 272), (0, u "java/util/Collections$SynchronizedList"), (5, .class_ 279), (0, u "java/util/Collections$SynchronizedMap"), (1, .class_ 282), (0, u "java/util/Collections$SynchronizedSortedMap"), (1, .class_ 285), (0, u "java/util/Collections$SynchronizedNavigableMap"), (1, .class_ 288), (0, u "java/util/Collections$CheckedCollection"), (11, .class_ 301), (0, u "java/util/Collections$CheckedQueue"), (3, .class_ 306), (0, u "java/util/Collections$CheckedSet"), (3, .class_ 311), (0, u "java/util/Collections$CheckedSortedSet"), (3, .class_ 316), (0, u "java/util/Collections$CheckedNavigableSet"), (3, .class_ 321), (0, u "java/util/Collections$CheckedRandomAccessList"), (3, .class_ 326), (0, u "java/util/Collections$CheckedList"), (1, .class_ 329), (0, u "java/util/Collections$CheckedMap"), (3, .class_ 334), (0, u "java/util/Collections$CheckedSortedMap"), (3, .class_ 339), (0, u "java/util/Collections$CheckedNavigableMap"), (4, .class_ 346), (1, u "java/util/Collections$EmptyIterator"), (3, .class_ 352), (1, u "java/util/Collections$EmptyListIterator"), (2, .class_ 357), (1, u "java/util/Collections$EmptyEnumeration"), (4, u "EMPTY_SET"), (0, u "Ljava/util/Set;"), (6, u "EMPTY_LIST"), (0, u "Ljava/util/List;"), (2, u "EMPTY_MAP"), (0, u "Ljava/util/Map;"), (4, .class_ 381), (0, u "java/util/Collections$SingletonSet"), (2, .class_ 385), (0, u "java/util/Collections$1"), (1, .class_ 388), (0, u "java/util/Collections$2"), (1, .class_ 391), (0, u "java/util/Collections$SingletonList"), (1, .class_ 394), (0, u "java/util/Collections$SingletonMap"), (22, .class_ 418), (0, u "java/util/Collections$CopiesList"), (4, .class_ 425), (1, u "java/util/Collections$ReverseComparator"), (8, .class_ 435), (0, u "java/util/Collections$ReverseComparator2"), (6, .class_ 443), (0, u "java/util/Collections$3"), (25, .class_ 470), (0, u "java/util/Collections$SetFromMap"), (2, .class_ 474), (0, u "java/util/Collections$SequencedSetFromMap"), (3, .class_ 479), (0, u "java/util/Collections$AsLIFOQueue"), (11, .class_ 492), (0, u "java/util/Collections$EmptySet"), (1, .class_ 495), (0, u "java/util/Collections$EmptyList"), (1, .class_ 498), (0, u "java/util/Collections$EmptyMap"), (1, u "BINARYSEARCH_THRESHOLD"), (0, u "I"), (2, u "REVERSE_THRESHOLD"), (1, u "SHUFFLE_THRESHOLD"), (1, u "FILL_THRESHOLD"), (1, u "ROTATE_THRESHOLD"), (1, u "COPY_THRESHOLD"), (1, u "REPLACEALL_THRESHOLD"), (1, u "INDEXOFSUBLIST_THRESHOLD"), (333, .class_ 851), (0, u "java/util/Collections$CheckedMap$CheckedEntrySet"), (0, .class_ 853), (0, u "java/util/Collections$CheckedMap$CheckedEntrySet$CheckedEntry"), (0, .class_ 855), (0, u "java/util/Collections$CheckedMap$CheckedEntrySet$1"), (0, .class_ 857), (0, u "java/util/Collections$CheckedList$1"), (0, .class_ 859), (0, u "java/util/Collections$CheckedCollection$1"), (0, .class_ 861), (0, u "java/util/Collections$UnmodifiableNavigableMap$EmptyNavigableMap"), (0, .class_ 863), (0, u "java/util/Collections$UnmodifiableMap$UnmodifiableEntrySet"), (0, .class_ 865), (0, u "java/util/Collections$UnmodifiableMap$UnmodifiableEntrySet$UnmodifiableEntry"), (0, .class_ 867), (0, u "java/util/Collections$UnmodifiableMap$UnmodifiableEntrySet$UnmodifiableEntrySetSpliterator"), (0, .class_ 869), (0, u "java/util/Collections$UnmodifiableMap$UnmodifiableEntrySet$1"), (0, .class_ 871), (0, u "java/util/Collections$UnmodifiableList$1"), (0, .class_ 873), (0, u "java/util/Collections$UnmodifiableNavigableSet$EmptyNavigableSet"), (0, .class_ 875), (0, u "java/util/Collections$UnmodifiableCollection$1")] 57

def k23m0 : Method := { name := "<init>", desc := "()V", sig := { parameters := [], returnType := none }, accessFlags := 2, code := none }
/-- java/util/Collections -/
def k23 : Class := { plain "java/util/Collections" (some 0) with
  accessFlags := 33
  interfaces := #[]
  cf := some (fileOf pool23 19 #[.nestMembers #[478, 473, 469, 434, 423, 417, 393, 390, 380, 497, 494, 491, 355, 350, 344, 338, 333, 328, 850, 852, 854, 320, 325, 856, 315, 310, 305, 300, 287, 858, 284, 281, 278, 268, 271, 265, 262, 256, 250, 245, 860, 237, 231, 223, 862, 864, 866, 868, 215, 212, 870, 206, 872, 198, 190, 182, 174, 166, 874, 442, 387, 384]] #[{ accessFlags := 2, nameIndex := 5, descriptorIndex := 6, attributes := #[] }] 33 2 #[] #[{ accessFlags := 26, nameIndex := 500, descriptorIndex := 501, attributes := #[] }, { accessFlags := 26, nameIndex := 504, descriptorIndex := 501, attributes := #[] }, { accessFlags := 26, nameIndex := 506, descriptorIndex := 501, attributes := #[] }, { accessFlags := 26, nameIndex := 508, descriptorIndex := 501, attributes := #[] }, { accessFlags := 26, nameIndex := 510, descriptorIndex := 501, attributes := #[] }, { accessFlags := 26, nameIndex := 512, descriptorIndex := 501, attributes := #[] }, { accessFlags := 26, nameIndex := 514, descriptorIndex := 501, attributes := #[] }, { accessFlags := 26, nameIndex := 516, descriptorIndex := 501, attributes := #[] }, { accessFlags := 10, nameIndex := 84, descriptorIndex := 85, attributes := #[] }, { accessFlags := 25, nameIndex := 362, descriptorIndex := 363, attributes := #[] }, { accessFlags := 25, nameIndex := 370, descriptorIndex := 371, attributes := #[] }, { accessFlags := 25, nameIndex := 374, descriptorIndex := 375, attributes := #[] }])
  fields := #[{ name := "BINARYSEARCH_THRESHOLD", type := .int, accessFlags := 26, slot := 0, constantValue := 0 }, { name := "REVERSE_THRESHOLD", type := .int, accessFlags := 26, slot := 1, constantValue := 0 }, { name := "SHUFFLE_THRESHOLD", type := .int, accessFlags := 26, slot := 2, constantValue := 0 }, { name := "FILL_THRESHOLD", type := .int, accessFlags := 26, slot := 3, constantValue := 0 }, { name := "ROTATE_THRESHOLD", type := .int, accessFlags := 26, slot := 4, constantValue := 0 }, { name := "COPY_THRESHOLD", type := .int, accessFlags := 26, slot := 5, constantValue := 0 }, { name := "REPLACEALL_THRESHOLD", type := .int, accessFlags := 26, slot := 6, constantValue := 0 }, { name := "INDEXOFSUBLIST_THRESHOLD", type := .int, accessFlags := 26, slot := 7, constantValue := 0 }, { name := "r", type := (.object "java/util/Random"), accessFlags := 10, slot := 8, constantValue := 0 }, { name := "EMPTY_SET", type := (.object "java/util/Set"), accessFlags := 25, slot := 9, constantValue := 0 }, { name := "EMPTY_LIST", type := (.object "java/util/List"), accessFlags := 25, slot := 10, constantValue := 0 }, { name := "EMPTY_MAP", type := (.object "java/util/Map"), accessFlags := 25, slot := 11, constantValue := 0 }]
  methods := #[k23m0]
  instanceTypes := #[]
  staticTypes := #[.int, .int, .int, .int, .int, .int, .int, .int, (.object "java/util/Random"), (.object "java/util/Set"), (.object "java/util/List"), (.object "java/util/Map")]
  resolved := Array.replicate 933 none
  statics := some 3 }

def pool24 : Array CpInfo := pool [(8, .class_ 10), (1, u "java/lang/Iterable"), (24, .class_ 36), (0, u "java/lang/Object")] 25

/-- java/lang/Iterable -/
def k24 : Class := { plain "java/lang/Iterable" (some 0) with
  accessFlags := 1537
  interfaces := #[]
  cf := some (fileOf pool24 8 #[] #[] 1537 35 #[] #[])
  fields := #[]
  methods := #[]
  instanceTypes := #[]
  staticTypes := #[]
  resolved := Array.replicate 62 none
  statics := none }

def pool25 : Array CpInfo := pool [(10, .class_ 12), (1, u "java/util/Collection"), (47, .class_ 61), (0, u "java/lang/Object"), (0, .class_ 63), (0, u "java/lang/Iterable")] 51

/-- java/util/Collection -/
def k25 : Class := { plain "java/util/Collection" (some 0) with
  accessFlags := 1537
  interfaces := #[24]
  cf := some (fileOf pool25 10 #[] #[] 1537 60 #[62] #[])
  fields := #[]
  methods := #[]
  instanceTypes := #[]
  staticTypes := #[]
  resolved := Array.replicate 115 none
  statics := none }

def pool26 : Array CpInfo := pool [(2, .class_ 4), (1, u "java/lang/Object"), (0, u "<init>"), (0, u "()V"), (1, .class_ 10), (1, u "java/util/AbstractCollection"), (66, .class_ 78), (0, u "java/util/Collection")] 81

def k26m0 : Method := { name := "<init>", desc := "()V", sig := { parameters := [], returnType := none }, accessFlags := 4, code := none }
/-- java/util/AbstractCollection -/
def k26 : Class := { plain "java/util/AbstractCollection" (some 0) with
  accessFlags := 1057
  interfaces := #[25]
  cf := some (fileOf pool26 8 #[] #[{ accessFlags := 4, nameIndex := 5, descriptorIndex := 6, attributes := #[] }] 1057 2 #[77] #[])
  fields := #[]
  methods := #[k26m0]
  instanceTypes := #[]
  staticTypes := #[]
  resolved := Array.replicate 160 none
  statics := none }

def pool27 : Array CpInfo := pool [(8, .class_ 10), (1, u "java/util/SequencedCollection"), (15, .class_ 27), (0, u "java/lang/Object"), (0, .class_ 29), (0, u "java/util/Collection")] 27

/-- java/util/SequencedCollection -/
def k27 : Class := { plain "java/util/SequencedCollection" (some 0) with
  accessFlags := 1537
  interfaces := #[25]
  cf := some (fileOf pool27 8 #[] #[] 1537 26 #[28] #[])
  fields := #[]
  methods := #[]
  instanceTypes := #[]
  staticTypes := #[]
  resolved := Array.replicate 57 none
  statics := none }

def pool28 : Array CpInfo := pool [(8, .class_ 10), (1, u "java/util/List"), (92, .class_ 104), (0, u "java/lang/Object"), (15, .class_ 121), (0, u "java/util/SequencedCollection")] 129

/-- java/util/List -/
def k28 : Class := { plain "java/util/List" (some 0) with
  accessFlags := 1537
  interfaces := #[27]
  cf := some (fileOf pool28 8 #[] #[] 1537 103 #[120] #[])
  fields := #[]
  methods := #[]
  instanceTypes := #[]
  staticTypes := #[]
  resolved := Array.replicate 251 none
  statics := none }

def pool29 : Array CpInfo := pool [(2, .class_ 4), (1, u "java/util/AbstractCollection"), (0, u "<init>"), (0, u "()V"), (1, .class_ 10), (1, u "java/util/AbstractList"), (0, u "modCount"), (0, u "I"), (64, .class_ 78), (0, u "java/util/AbstractList$Itr"), (3, .class_ 83), (0, u "java/util/AbstractList$ListItr"), (9, .class_ 94), (0, u "java/util/AbstractList$RandomAccessSubList"), (3, .class_ 99), (0, u "java/util/AbstractList$SubList"), (33, .class_ 134), (0, u "java/util/List"), (73, .class_ 209), (0, u "java/util/AbstractList$SubList$1"), (0, .class_ 211), (0, u "java/util/AbstractList$RandomAccessSpliterator")] 6

def k29m0 : Method := { name := "<init>", desc := "()V", sig := { parameters := [], returnType := none }, accessFlags := 4, code := none }
/-- java/util/AbstractList -/
def k29 : Class := { plain "java/util/AbstractList" (some 26) with
  accessFlags := 1057
  interfaces := #[28]
  cf := some (fileOf pool29 8 #[.nestMembers #[93, 98, 208, 210, 82, 77]] #[{ accessFlags := 4, nameIndex := 5, descriptorIndex := 6, attributes := #[] }] 1057 2 #[133] #[{ accessFlags := 132, nameIndex := 11, descriptorIndex := 12, attributes := #[] }])
  fields := #[{ name := "modCount", type := .int, accessFlags := 132, slot := 0, constantValue := 0 }]
  methods := #[k29m0]
  instanceTypes := #[.int]
  staticTypes := #[]
  resolved := Array.replicate 218 none
  statics := none }

def pool30 : Array CpInfo := pool [(1, .class_ 2), (0, u "java/util/RandomAccess"), (0, .class_ 4), (0, u "java/lang/Object")] 2

/-- java/util/RandomAccess -/
def k30 : Class := { plain "java/util/RandomAccess" (some 0) with
  accessFlags := 1537
  interfaces := #[]
  cf := some (fileOf pool30 1 #[] #[] 1537 3 #[] #[])
  fields := #[]
  methods := #[]
  instanceTypes := #[]
  staticTypes := #[]
  resolved := Array.replicate 7 none
  statics := none }

def pool31 : Array CpInfo := pool [(2, .class_ 4), (1, u "java/util/AbstractList"), (0, u "<init>"), (0, u "()V"), (1, .class_ 10), (1, u "java/util/Collections"), (54, .class_ 66), (0, u "java/util/Collections$EmptyList"), (0, .class_ 68), (0, u "java/util/RandomAccess"), (0, .class_ 70), (0, u "java/io/Serializable"), (0, u "serialVersionUID"), (0, u "J")] 77

def k31m0 : Method := { name := "<init>", desc := "()V", sig := { parameters := [], returnType := none }, accessFlags := 2, code := none }
/-- java/util/Collections$EmptyList -/
def k31 : Class := { plain "java/util/Collections$EmptyList" (some 29) with
  accessFlags := 32
  interfaces := #[30, 2]
  cf := some (fileOf pool31 65 #[.nestHost 8] #[{ accessFlags := 2, nameIndex := 5, descriptorIndex := 6, attributes := #[] }] 32 2 #[67, 69] #[{ accessFlags := 26, nameIndex := 71, descriptorIndex := 72, attributes := #[] }])
  fields := #[{ name := "serialVersionUID", type := .long, accessFlags := 26, slot := 0, constantValue := 0 }]
  methods := #[k31m0]
  instanceTypes := #[.int]
  staticTypes := #[.long]
  resolved := Array.replicate 150 none
  statics := none }

def pool32 : Array CpInfo := pool [(2, .class_ 4), (1, u "java/lang/StackTraceElement"), (0, u "<init>"), (2, .class_ 10), (1, u "java/lang/Object"), (0, u "()V"), (2, u "format"), (0, u "B"), (2, u "classLoaderName"), (0, u "Ljava/lang/String;"), (2, u "moduleName"), (2, u "moduleVersion"), (12, u "declaringClass"), (4, u "methodName"), (2, u "fileName"), (2, u "lineNumber"), (0, u "I"), (65, u "declaringClassObject"), (0, u "Ljava/lang/Class;"), (33, .class_ 153), (1, u "java/lang/StackTraceElement$HashedModules"), (17, .class_ 172), (0, u "java/io/Serializable"), (0, u "NATIVE_METHOD"), (1, u "UNKNOWN_SOURCE"), (2, u "BUILTIN_CLASS_LOADER"), (1, u "JDK_NON_UPGRADEABLE_MODULE"), (1, u "serialVersionUID"), (0, u "J")] 51

def k32m0 : Method := { name := "<init>", desc := "()V", sig := { parameters := [], returnType := none }, accessFlags := 2, code := none }
/-- java/lang/StackTraceElement -/
def k32 : Class := { plain "java/lang/StackTraceElement" (some 0) with
  accessFlags := 49
  interfaces := #[2]
  cf := some (fileOf pool32 2 #[.nestMembers #[151]] #[{ accessFlags := 2, nameIndex := 5, descriptorIndex := 11, attributes := #[] }] 49 8 #[171] #[{ accessFlags := 26, nameIndex := 173, descriptorIndex := 19, attributes := #[] }, { accessFlags := 26, nameIndex := 175, descriptorIndex := 19, attributes := #[] }, { accessFlags := 130, nameIndex := 116, descriptorIndex := 117, attributes := #[] }, { accessFlags := 2, nameIndex := 18, descriptorIndex := 19, attributes := #[] }, { accessFlags := 2, nameIndex := 22, descriptorIndex := 19, attributes := #[] }, { accessFlags := 2, nameIndex := 25, descriptorIndex := 19, attributes := #[] }, { accessFlags := 2, nameIndex := 38, descriptorIndex := 19, attributes := #[] }, { accessFlags := 2, nameIndex := 43, descriptorIndex := 19, attributes := #[] }, { accessFlags := 2, nameIndex := 46, descriptorIndex := 19, attributes := #[] }, { accessFlags := 2, nameIndex := 49, descriptorIndex := 50, attributes := #[] }, { accessFlags := 2, nameIndex := 14, descriptorIndex := 15, attributes := #[] }, { accessFlags := 26, nameIndex := 178, descriptorIndex := 15, attributes := #[] }, { accessFlags := 26, nameIndex := 180, descriptorIndex := 15, attributes := #[] }, { accessFlags := 26, nameIndex := 182, descriptorIndex := 183, attributes := #[] }])
  fields := #[{ name := "NATIVE_METHOD", type := (.object "java/lang/String"), accessFlags := 26, slot := 0, constantValue := 0 }, { name := "UNKNOWN_SOURCE", type := (.object "java/lang/String"), accessFlags := 26, slot := 1, constantValue := 0 }, { name := "declaringClassObject", type := (.object "java/lang/Class"), accessFlags := 130, slot := 0, constantValue := 0 }, { name := "classLoaderName", type := (.object "java/lang/String"), accessFlags := 2, slot := 1, constantValue := 0 }, { name := "moduleName", type := (.object "java/lang/String"), accessFlags := 2, slot := 2, constantValue := 0 }, { name := "moduleVersion", type := (.object "java/lang/String"), accessFlags := 2, slot := 3, constantValue := 0 }, { name := "declaringClass", type := (.object "java/lang/String"), accessFlags := 2, slot := 4, constantValue := 0 }, { name := "methodName", type := (.object "java/lang/String"), accessFlags := 2, slot := 5, constantValue := 0 }, { name := "fileName", type := (.object "java/lang/String"), accessFlags := 2, slot := 6, constantValue := 0 }, { name := "lineNumber", type := .int, accessFlags := 2, slot := 7, constantValue := 0 }, { name := "format", type := .byte, accessFlags := 2, slot := 8, constantValue := 0 }, { name := "BUILTIN_CLASS_LOADER", type := .byte, accessFlags := 26, slot := 2, constantValue := 0 }, { name := "JDK_NON_UPGRADEABLE_MODULE", type := .byte, accessFlags := 26, slot := 3, constantValue := 0 }, { name := "serialVersionUID", type := .long, accessFlags := 26, slot := 4, constantValue := 0 }]
  methods := #[k32m0]
  instanceTypes := #[(.object "java/lang/Class"), (.object "java/lang/String"), (.object "java/lang/String"), (.object "java/lang/String"), (.object "java/lang/String"), (.object "java/lang/String"), (.object "java/lang/String"), .int, .byte]
  staticTypes := #[(.object "java/lang/String"), (.object "java/lang/String"), .byte, .byte, .long]
  resolved := Array.replicate 235 none
  statics := none }

/-- the primitive byte -/
def k33 : Class := { plain "byte" none with kind := .primitive 'B', accessFlags := 0x411 }
/-- [B -/
def k34 : Class := { plain "[B" (some 0) with kind := .array 33 .byte, interfaces := #[17, 2], accessFlags := 1041 }

/-- the primitive char -/
def k35 : Class := { plain "char" none with kind := .primitive 'C', accessFlags := 0x411 }
/-- [C -/
def k36 : Class := { plain "[C" (some 0) with kind := .array 35 .char, interfaces := #[17, 2], accessFlags := 1041 }

/-- the primitive int -/
def k37 : Class := { plain "int" none with kind := .primitive 'I', accessFlags := 0x411 }
/-- [I -/
def k38 : Class := { plain "[I" (some 0) with kind := .array 37 .int, interfaces := #[17, 2], accessFlags := 1041 }

/-- [Ljava/lang/Object; -/
def k39 : Class := { plain "[Ljava/lang/Object;" (some 0) with kind := .array 0 (.object "java/lang/Object"), interfaces := #[17, 2], accessFlags := 1041 }

/-- [Ljava/lang/StackTraceElement; -/
def k40 : Class := { plain "[Ljava/lang/StackTraceElement;" (some 0) with kind := .array 32 (.object "java/lang/StackTraceElement"), interfaces := #[17, 2], accessFlags := 1041 }

/-- [Ljava/lang/Throwable; -/
def k41 : Class := { plain "[Ljava/lang/Throwable;" (some 0) with kind := .array 9 (.object "java/lang/Throwable"), interfaces := #[17, 2], accessFlags := 1041 }

def heap : Heap := #[{ cls := 7, slots := #[.long 0, .int 1, .null, .int 0, .null, .int 0, .int 0], vm := .statics 7 },
  { cls := 9, slots := #[.long 0, .ref 4, .ref 5, .null, .null, .null, .null, .ref 6, .int 1], vm := .statics 9 },
  { cls := 22, slots := #[.null, .null, .null], vm := .statics 22 },
  { cls := 23, slots := #[.int 0, .int 0, .int 0, .int 0, .int 0, .int 0, .int 0, .int 0, .null, .null, .ref 5, .null], vm := .statics 23 },
  { cls := 40, slots := #[], vm := .none },
  { cls := 31, slots := #[.int 0], vm := .none },
  { cls := 41, slots := #[], vm := .none }]
def classes : Array Class := #[k0, k1, k2, k3, k4, k5, k6, k7, k8, k9, k10, k11, k12, k13, k14, k15, k16, k17, k18, k19, k20, k21, k22, k23, k24, k25, k26, k27, k28, k29, k30, k31, k32, k33, k34, k35, k36, k37, k38, k39, k40, k41]
def interned : List (Array UInt16 × Addr) := []
def slotsUsed : Nat := 32
def theMethod : MethodId := ⟨1, 1⟩
def args0 : Array Value := #[.int 3, .int 97, .int 98, .int 9]
def aboutOver (below : List Frame) : State where
  vm := { classes := classes, interned := interned.toArray }
  heap := heap
  slotsUsed := slotsUsed
  threads := #[{ frames := .invoking theMethod args0 :: below }]
def below0 : List Frame := [.native { method := ⟨0, 0⟩, args := #[] }]
def about1 : State := aboutOver below0
def p0 : Program := .bare "" "" ""
def e0 : Env := launch0.env 0 0 0
theorem w_frames : about1.frames = Frame.invoking theMethod args0 :: below0 := rfl
set_option maxRecDepth 65536 in
theorem w_args : argsFit about1.vm theMethod args0 = true := by decide +kernel
set_option maxRecDepth 65536 in
theorem w_heap : heapFits about1 = true := by decide +kernel
set_option maxRecDepth 65536 in
theorem w_runnable : about1.curStatus? = some .runnable := by decide +kernel
set_option maxRecDepth 65536 in
theorem w_alone : about1.alone = true := by decide +kernel
set_option maxRecDepth 65536 in
theorem w_named : about1.methodNamed? x = some theMethod := by decide +kernel
set_option maxRecDepth 65536 in
theorem w_hears : about1.hears theMethod below0 = true := by decide +kernel
set_option maxRecDepth 65536 in
theorem w_ripe : about1.ripe theMethod args0 below0 = true := by decide +kernel
theorem w_running : about1.status = .running := rfl
set_option maxRecDepth 65536 in
theorem w_room : about1.hasRoom e0.platform room_1 = true :=
  launch0.hasRoom_least _ room_1 (by decide +kernel) (by decide +kernel) (by decide +kernel) (by decide +kernel) (by decide +kernel) (by decide +kernel)
theorem allAtoms_all (ts : List Jvm.Cond) (a : Array Jvm.Value) (st : Jvm.State) : (allAtoms ts).before a st = ts.all (fun c => c.before a st) := by
  induction ts with
  | nil => rfl
  | cons c t ih =>
    show (Jvm.Cond.and c (allAtoms t)).before a st = _
    rw [Jvm.Cond.before_and, ih, List.all_cons]
def words1 : List Jvm.Cond := Jvm.Cond.code x code maxLocals ret :: tables_1
/-- a 'code' word, met by the world's own term for the bytes: nothing is compared byte by byte -/
theorem code_word {y : MethodName} {bytes : ByteArray} {mx : Nat} {rt : Option FieldType} {a : Array Value} {s : State} {m : MethodId} {meth : Method} {c : Code} (h1 : s.methodNamed? y = some m) (h2 : s.vm.method? m = some meth) (h3 : meth.code = some c) (h4 : c.code = bytes)
    (h5 : (c.maxLocals == mx && c.exceptionTable.isEmpty && decide (c.maxStack ≤ mostOperands) && decide (meth.sig.returnType = rt) && !meth.locks && decide (parseMethodDescriptor y.desc = some meth.sig)) = true) : (Jvm.Cond.code y bytes mx rt).before a s = true := by
  simp only [Bool.and_eq_true, beq_iff_eq, Bool.not_eq_true', decide_eq_true_eq] at h5
  obtain ⟨⟨⟨⟨⟨g1, g2⟩, g3⟩, g4⟩, g5⟩, g6⟩ := h5
  simp [Cond.before, Cond.holds, Cond.value, h1, h2, h3, h4, g1, g2, g3, g4, g5, g6]
def isCode : Jvm.Cond → Bool
  | .code _ _ _ _ => true
  | _ => false
theorem all_split {L : List Jvm.Cond} {P : Jvm.Cond → Bool} (h1 : L.all (fun c => isCode c || P c) = true) (h2 : ∀ c ∈ L.filter isCode, P c = true) : L.all P = true := by
  refine List.all_eq_true.mpr fun c hc => ?_
  have h := List.all_eq_true.mp h1 c hc
  rcases Bool.eq_false_or_eq_true (isCode c) with hi | hi
  · exact h2 c (List.mem_filter.mpr ⟨hc, hi⟩)
  · simpa [hi] using h
set_option maxRecDepth 65536 in
theorem w_c0 : (Jvm.Cond.code x code maxLocals ret).before args0 about1 = true := code_word (m := ⟨1, 1⟩) (meth := k1m1) (c := k1c1) (by decide +kernel) rfl rfl rfl (by decide +kernel)
set_option maxRecDepth 65536 in
theorem w_c1 : (Jvm.Cond.code ({ cls := "java/lang/String", name := "<init>", desc := "([C)V" } : Jvm.MethodName) jdk_42_method_3_code (2 : Nat) (Option.none : Option Jvm.ClassFile.FieldType)).before args0 about1 = true := code_word (m := ⟨7, 1⟩) (meth := k7m1) (c := k7c1) (by decide +kernel) rfl rfl rfl (by decide +kernel)
set_option maxRecDepth 65536 in
theorem w_c2 : (Jvm.Cond.code ({ cls := "java/lang/String", name := "<init>", desc := "([CIILjava/lang/Void;)V" } : Jvm.MethodName) jdk_42_method_149_code (6 : Nat) (Option.none : Option Jvm.ClassFile.FieldType)).before args0 about1 = true := code_word (m := ⟨7, 8⟩) (meth := k7m8) (c := k7c8) (by decide +kernel) rfl rfl rfl (by decide +kernel)
set_option maxRecDepth 65536 in
theorem w_c3 : (Jvm.Cond.code ({ cls := "java/lang/Object", name := "<init>", desc := "()V" } : Jvm.MethodName) object_method_1_code (1 : Nat) (Option.none : Option Jvm.ClassFile.FieldType)).before args0 about1 = true := code_word (m := ⟨0, 0⟩) (meth := k0m0) (c := k0c0) (by decide +kernel) rfl rfl rfl (by decide +kernel)
set_option maxRecDepth 65536 in
theorem w_c4 : (Jvm.Cond.code ({ cls := "com/example/usage_throttle/usagethrottle/io/PolicyFields", name := "unknownField", desc := "(Ljava/lang/Object;)Lcom/example/usage_throttle/usagethrottle/io/InvalidPolicyException;" } : Jvm.MethodName) prog_8_method_6_code (1 : Nat) (Option.some (Jvm.ClassFile.FieldType.object "com/example/usage_throttle/usagethrottle/io/InvalidPolicyException"))).before args0 about1 = true := code_word (m := ⟨8, 1⟩) (meth := k8m1) (c := k8c1) (by decide +kernel) rfl rfl rfl (by decide +kernel)
set_option maxRecDepth 65536 in
theorem w_c5 : (Jvm.Cond.code ({ cls := "java/lang/StringBuilder", name := "<init>", desc := "()V" } : Jvm.MethodName) jdk_67_method_1_code (1 : Nat) (Option.none : Option Jvm.ClassFile.FieldType)).before args0 about1 = true := code_word (m := ⟨14, 0⟩) (meth := k14m0) (c := k14c0) (by decide +kernel) rfl rfl rfl (by decide +kernel)
set_option maxRecDepth 65536 in
theorem w_c6 : (Jvm.Cond.code ({ cls := "java/lang/AbstractStringBuilder", name := "<init>", desc := "(I)V" } : Jvm.MethodName) jdk_68_method_2_code (2 : Nat) (Option.none : Option Jvm.ClassFile.FieldType)).before args0 about1 = true := code_word (m := ⟨13, 1⟩) (meth := k13m1) (c := k13c1) (by decide +kernel) rfl rfl rfl (by decide +kernel)
set_option maxRecDepth 65536 in
theorem w_c7 : (Jvm.Cond.code ({ cls := "java/lang/StringBuilder", name := "append", desc := "(Ljava/lang/String;)Ljava/lang/StringBuilder;" } : Jvm.MethodName) jdk_67_method_7_code (2 : Nat) (Option.some (Jvm.ClassFile.FieldType.object "java/lang/StringBuilder"))).before args0 about1 = true := code_word (m := ⟨14, 2⟩) (meth := k14m2) (c := k14c2) (by decide +kernel) rfl rfl rfl (by decide +kernel)
set_option maxRecDepth 65536 in
theorem w_c8 : (Jvm.Cond.code ({ cls := "java/lang/AbstractStringBuilder", name := "append", desc := "(Ljava/lang/String;)Ljava/lang/AbstractStringBuilder;" } : Jvm.MethodName) jdk_68_method_22_code (3 : Nat) (Option.some (Jvm.ClassFile.FieldType.object "java/lang/AbstractStringBuilder"))).before args0 about1 = true := code_word (m := ⟨13, 5⟩) (meth := k13m5) (c := k13c5) (by decide +kernel) rfl rfl rfl (by decide +kernel)
set_option maxRecDepth 65536 in
theorem w_c9 : (Jvm.Cond.code ({ cls := "java/lang/String", name := "length", desc := "()I" } : Jvm.MethodName) jdk_42_method_54_code (1 : Nat) (Option.some Jvm.ClassFile.FieldType.int)).before args0 about1 = true := code_word (m := ⟨7, 3⟩) (meth := k7m3) (c := k7c3) (by decide +kernel) rfl rfl rfl (by decide +kernel)
set_option maxRecDepth 65536 in
theorem w_c10 : (Jvm.Cond.code ({ cls := "java/lang/String", name := "coder", desc := "()B" } : Jvm.MethodName) jdk_42_method_152_code (1 : Nat) (Option.some Jvm.ClassFile.FieldType.byte)).before args0 about1 = true := code_word (m := ⟨7, 10⟩) (meth := k7m10) (c := k7c10) (by decide +kernel) rfl rfl rfl (by decide +kernel)
set_option maxRecDepth 65536 in
theorem w_c11 : (Jvm.Cond.code ({ cls := "java/lang/AbstractStringBuilder", name := "ensureCapacityInternal", desc := "(I)V" } : Jvm.MethodName) jdk_68_method_9_code (3 : Nat) (Option.none : Option Jvm.ClassFile.FieldType)).before args0 about1 = true := code_word (m := ⟨13, 3⟩) (meth := k13m3) (c := k13c3) (by decide +kernel) rfl rfl rfl (by decide +kernel)
set_option maxRecDepth 65536 in
theorem w_c12 : (Jvm.Cond.code ({ cls := "java/lang/AbstractStringBuilder", name := "putStringAt", desc := "(ILjava/lang/String;)V" } : Jvm.MethodName) jdk_68_method_73_code (3 : Nat) (Option.none : Option Jvm.ClassFile.FieldType)).before args0 about1 = true := code_word (m := ⟨13, 9⟩) (meth := k13m9) (c := k13c9) (by decide +kernel) rfl rfl rfl (by decide +kernel)
set_option maxRecDepth 65536 in
theorem w_c13 : (Jvm.Cond.code ({ cls := "java/lang/AbstractStringBuilder", name := "inflateIfNeededFor", desc := "(Ljava/lang/String;)V" } : Jvm.MethodName) jdk_68_method_71_code (2 : Nat) (Option.none : Option Jvm.ClassFile.FieldType)).before args0 about1 = true := code_word (m := ⟨13, 8⟩) (meth := k13m8) (c := k13c8) (by decide +kernel) rfl rfl rfl (by decide +kernel)
set_option maxRecDepth 65536 in
theorem w_c14 : (Jvm.Cond.code ({ cls := "java/lang/String", name := "getBytes", desc := "([BIB)V" } : Jvm.MethodName) jdk_42_method_147_code (4 : Nat) (Option.none : Option Jvm.ClassFile.FieldType)).before args0 about1 = true := code_word (m := ⟨7, 7⟩) (meth := k7m7) (c := k7c7) (by decide +kernel) rfl rfl rfl (by decide +kernel)
set_option maxRecDepth 65536 in
theorem w_c15 : (Jvm.Cond.code ({ cls := "java/lang/StringBuilder", name := "append", desc := "(Ljava/lang/Object;)Ljava/lang/StringBuilder;" } : Jvm.MethodName) jdk_67_method_6_code (2 : Nat) (Option.some (Jvm.ClassFile.FieldType.object "java/lang/StringBuilder"))).before args0 about1 = true := code_word (m := ⟨14, 1⟩) (meth := k14m1) (c := k14c1) (by decide +kernel) rfl rfl rfl (by decide +kernel)
set_option maxRecDepth 65536 in
theorem w_c16 : (Jvm.Cond.code ({ cls := "java/lang/String", name := "valueOf", desc := "(Ljava/lang/Object;)Ljava/lang/String;" } : Jvm.MethodName) jdk_42_method_133_code (1 : Nat) (Option.some (Jvm.ClassFile.FieldType.object "java/lang/String"))).before args0 about1 = true := code_word (m := ⟨7, 6⟩) (meth := k7m6) (c := k7c6) (by decide +kernel) rfl rfl rfl (by decide +kernel)
set_option maxRecDepth 65536 in
theorem w_c17 : (Jvm.Cond.code ({ cls := "java/lang/String", name := "toString", desc := "()Ljava/lang/String;" } : Jvm.MethodName) jdk_42_method_126_code (1 : Nat) (Option.some (Jvm.ClassFile.FieldType.object "java/lang/String"))).before args0 about1 = true := code_word (m := ⟨7, 5⟩) (meth := k7m5) (c := k7c5) (by decide +kernel) rfl rfl rfl (by decide +kernel)
set_option maxRecDepth 65536 in
theorem w_c18 : (Jvm.Cond.code ({ cls := "java/lang/StringBuilder", name := "toString", desc := "()Ljava/lang/String;" } : Jvm.MethodName) jdk_67_method_42_code (1 : Nat) (Option.some (Jvm.ClassFile.FieldType.object "java/lang/String"))).before args0 about1 = true := code_word (m := ⟨14, 3⟩) (meth := k14m3) (c := k14c3) (by decide +kernel) rfl rfl rfl (by decide +kernel)
set_option maxRecDepth 65536 in
theorem w_c19 : (Jvm.Cond.code ({ cls := "java/lang/String", name := "<init>", desc := "(Ljava/lang/StringBuilder;)V" } : Jvm.MethodName) jdk_42_method_53_code (2 : Nat) (Option.none : Option Jvm.ClassFile.FieldType)).before args0 about1 = true := code_word (m := ⟨7, 2⟩) (meth := k7m2) (c := k7c2) (by decide +kernel) rfl rfl rfl (by decide +kernel)
set_option maxRecDepth 65536 in
theorem w_c20 : (Jvm.Cond.code ({ cls := "java/lang/String", name := "<init>", desc := "(Ljava/lang/AbstractStringBuilder;Ljava/lang/Void;)V" } : Jvm.MethodName) jdk_42_method_150_code (5 : Nat) (Option.none : Option Jvm.ClassFile.FieldType)).before args0 about1 = true := code_word (m := ⟨7, 9⟩) (meth := k7m9) (c := k7c9) (by decide +kernel) rfl rfl rfl (by decide +kernel)
set_option maxRecDepth 65536 in
theorem w_c21 : (Jvm.Cond.code ({ cls := "java/lang/AbstractStringBuilder", name := "getValue", desc := "()[B" } : Jvm.MethodName) jdk_68_method_64_code (1 : Nat) (Option.some (Jvm.ClassFile.FieldType.array Jvm.ClassFile.FieldType.byte))).before args0 about1 = true := code_word (m := ⟨13, 6⟩) (meth := k13m6) (c := k13c6) (by decide +kernel) rfl rfl rfl (by decide +kernel)
set_option maxRecDepth 65536 in
theorem w_c22 : (Jvm.Cond.code ({ cls := "java/lang/StringBuilder", name := "length", desc := "()I" } : Jvm.MethodName) jdk_67_method_93_code (1 : Nat) (Option.some Jvm.ClassFile.FieldType.int)).before args0 about1 = true := code_word (m := ⟨14, 4⟩) (meth := k14m4) (c := k14c4) (by decide +kernel) rfl rfl rfl (by decide +kernel)
set_option maxRecDepth 65536 in
theorem w_c23 : (Jvm.Cond.code ({ cls := "java/lang/AbstractStringBuilder", name := "length", desc := "()I" } : Jvm.MethodName) jdk_68_method_6_code (1 : Nat) (Option.some Jvm.ClassFile.FieldType.int)).before args0 about1 = true := code_word (m := ⟨13, 2⟩) (meth := k13m2) (c := k13c2) (by decide +kernel) rfl rfl rfl (by decide +kernel)
set_option maxRecDepth 65536 in
theorem w_c24 : (Jvm.Cond.code ({ cls := "java/lang/AbstractStringBuilder", name := "isLatin1", desc := "()Z" } : Jvm.MethodName) jdk_68_method_68_code (1 : Nat) (Option.some Jvm.ClassFile.FieldType.boolean)).before args0 about1 = true := code_word (m := ⟨13, 7⟩) (meth := k13m7) (c := k13c7) (by decide +kernel) rfl rfl rfl (by decide +kernel)
set_option maxRecDepth 65536 in
theorem w_c25 : (Jvm.Cond.code ({ cls := "java/util/Arrays", name := "copyOfRange", desc := "([BII)[B" } : Jvm.MethodName) jdk_65_method_132_code (3 : Nat) (Option.some (Jvm.ClassFile.FieldType.array Jvm.ClassFile.FieldType.byte))).before args0 about1 = true := code_word (m := ⟨16, 3⟩) (meth := k16m3) (c := k16c3) (by decide +kernel) rfl rfl rfl (by decide +kernel)
set_option maxRecDepth 65536 in
theorem w_c26 : (Jvm.Cond.code ({ cls := "com/example/usage_throttle/usagethrottle/io/InvalidPolicyException", name := "<init>", desc := "(Ljava/lang/String;)V" } : Jvm.MethodName) prog_4_method_1_code (2 : Nat) (Option.none : Option Jvm.ClassFile.FieldType)).before args0 about1 = true := code_word (m := ⟨11, 0⟩) (meth := k11m0) (c := k11c0) (by decide +kernel) rfl rfl rfl (by decide +kernel)
set_option maxRecDepth 65536 in
theorem w_c27 : (Jvm.Cond.code ({ cls := "java/lang/Exception", name := "<init>", desc := "(Ljava/lang/String;)V" } : Jvm.MethodName) jdk_59_method_2_code (2 : Nat) (Option.none : Option Jvm.ClassFile.FieldType)).before args0 about1 = true := code_word (m := ⟨10, 1⟩) (meth := k10m1) (c := k10c1) (by decide +kernel) rfl rfl rfl (by decide +kernel)
set_option maxRecDepth 65536 in
theorem w_c28 : (Jvm.Cond.code ({ cls := "java/lang/Throwable", name := "<init>", desc := "(Ljava/lang/String;)V" } : Jvm.MethodName) jdk_78_method_2_code (2 : Nat) (Option.none : Option Jvm.ClassFile.FieldType)).before args0 about1 = true := code_word (m := ⟨9, 1⟩) (meth := k9m1) (c := k9c1) (by decide +kernel) rfl rfl rfl (by decide +kernel)
set_option maxRecDepth 65536 in
theorem w_c29 : (Jvm.Cond.code ({ cls := "java/lang/Throwable", name := "<init>", desc := "()V" } : Jvm.MethodName) jdk_78_method_1_code (1 : Nat) (Option.none : Option Jvm.ClassFile.FieldType)).before args0 about1 = true := code_word (m := ⟨9, 0⟩) (meth := k9m0) (c := k9c0) (by decide +kernel) rfl rfl rfl (by decide +kernel)
set_option maxRecDepth 65536 in
theorem w_c30 : (Jvm.Cond.code ({ cls := "java/lang/Throwable", name := "getMessage", desc := "()Ljava/lang/String;" } : Jvm.MethodName) jdk_78_method_6_code (1 : Nat) (Option.some (Jvm.ClassFile.FieldType.object "java/lang/String"))).before args0 about1 = true := code_word (m := ⟨9, 2⟩) (meth := k9m2) (c := k9c2) (by decide +kernel) rfl rfl rfl (by decide +kernel)
set_option maxRecDepth 65536 in
theorem w_c31 : (Jvm.Cond.code ({ cls := "java/lang/StringUTF16", name := "compress", desc := "([CII)[B" } : Jvm.MethodName) jdk_52_method_16_code (6 : Nat) (Option.some (Jvm.ClassFile.FieldType.array Jvm.ClassFile.FieldType.byte))).before args0 about1 = true := code_word (m := ⟨18, 2⟩) (meth := k18m2) (c := k18c2) (by decide +kernel) rfl rfl rfl (by decide +kernel)
set_option maxRecDepth 65536 in
theorem w_c32 : (Jvm.Cond.code ({ cls := "java/lang/StringUTF16", name := "compress", desc := "([CI[BII)I" } : Jvm.MethodName) jdk_52_method_21_code (7 : Nat) (Option.some Jvm.ClassFile.FieldType.int)).before args0 about1 = true := code_word (m := ⟨18, 3⟩) (meth := k18m3) (c := k18c3) (by decide +kernel) rfl rfl rfl (by decide +kernel)
set_option maxRecDepth 65536 in
theorem w_c33 : (Jvm.Cond.code ({ cls := "java/lang/StringUTF16", name := "coderFromArrayLen", desc := "([BI)B" } : Jvm.MethodName) jdk_52_method_15_code (2 : Nat) (Option.some Jvm.ClassFile.FieldType.byte)).before args0 about1 = true := code_word (m := ⟨18, 1⟩) (meth := k18m1) (c := k18c1) (by decide +kernel) rfl rfl rfl (by decide +kernel)
set_option maxRecDepth 65536 in
theorem w_c34 : (Jvm.Cond.code ({ cls := "java/lang/String", name := "equals", desc := "(Ljava/lang/Object;)Z" } : Jvm.MethodName) jdk_42_method_66_code (3 : Nat) (Option.some Jvm.ClassFile.FieldType.boolean)).before args0 about1 = true := code_word (m := ⟨7, 4⟩) (meth := k7m4) (c := k7c4) (by decide +kernel) rfl rfl rfl (by decide +kernel)
set_option maxRecDepth 65536 in
theorem w_c35 : (Jvm.Cond.code ({ cls := "java/lang/StringLatin1", name := "equals", desc := "([B[B)Z" } : Jvm.MethodName) jdk_43_method_13_code (3 : Nat) (Option.some Jvm.ClassFile.FieldType.boolean)).before args0 about1 = true := code_word (m := ⟨19, 1⟩) (meth := k19m1) (c := k19c1) (by decide +kernel) rfl rfl rfl (by decide +kernel)
set_option maxRecDepth 65536 in
theorem w_c36 : (Jvm.Cond.code ({ cls := "java/lang/AbstractStringBuilder", name := "newCapacity", desc := "(I)I" } : Jvm.MethodName) jdk_68_method_10_code (6 : Nat) (Option.some Jvm.ClassFile.FieldType.int)).before args0 about1 = true := code_word (m := ⟨13, 4⟩) (meth := k13m4) (c := k13c4) (by decide +kernel) rfl rfl rfl (by decide +kernel)
set_option maxRecDepth 65536 in
theorem w_c37 : (Jvm.Cond.code ({ cls := "jdk/internal/util/ArraysSupport", name := "newLength", desc := "(III)I" } : Jvm.MethodName) jdk_48_method_27_code (4 : Nat) (Option.some Jvm.ClassFile.FieldType.int)).before args0 about1 = true := code_word (m := ⟨20, 1⟩) (meth := k20m1) (c := k20c1) (by decide +kernel) rfl rfl rfl (by decide +kernel)
set_option maxRecDepth 65536 in
theorem w_c38 : (Jvm.Cond.code ({ cls := "java/lang/Math", name := "max", desc := "(II)I" } : Jvm.MethodName) jdk_29_method_65_code (2 : Nat) (Option.some Jvm.ClassFile.FieldType.int)).before args0 about1 = true := code_word (m := ⟨21, 1⟩) (meth := k21m1) (c := k21c1) (by decide +kernel) rfl rfl rfl (by decide +kernel)
set_option maxRecDepth 65536 in
theorem w_c39 : (Jvm.Cond.code ({ cls := "java/util/Arrays", name := "copyOf", desc := "([BI)[B" } : Jvm.MethodName) jdk_65_method_121_code (3 : Nat) (Option.some (Jvm.ClassFile.FieldType.array Jvm.ClassFile.FieldType.byte))).before args0 about1 = true := code_word (m := ⟨16, 1⟩) (meth := k16m1) (c := k16c1) (by decide +kernel) rfl rfl rfl (by decide +kernel)
set_option maxRecDepth 65536 in
theorem w_c40 : (Jvm.Cond.code ({ cls := "java/lang/Math", name := "min", desc := "(II)I" } : Jvm.MethodName) jdk_29_method_69_code (2 : Nat) (Option.some Jvm.ClassFile.FieldType.int)).before args0 about1 = true := code_word (m := ⟨21, 2⟩) (meth := k21m2) (c := k21c2) (by decide +kernel) rfl rfl rfl (by decide +kernel)
set_option maxRecDepth 65536 in
theorem w_c41 : (Jvm.Cond.code ({ cls := "java/util/Arrays", name := "copyOfRangeByte", desc := "([BII)[B" } : Jvm.MethodName) jdk_65_method_133_code (5 : Nat) (Option.some (Jvm.ClassFile.FieldType.array Jvm.ClassFile.FieldType.byte))).before args0 about1 = true := code_word (m := ⟨16, 4⟩) (meth := k16m4) (c := k16c4) (by decide +kernel) rfl rfl rfl (by decide +kernel)
set_option maxRecDepth 65536 in
theorem w_c42 : (Jvm.Cond.code ({ cls := "java/util/Arrays", name := "checkLength", desc := "(II)V" } : Jvm.MethodName) jdk_65_method_131_code (2 : Nat) (Option.none : Option Jvm.ClassFile.FieldType)).before args0 about1 = true := code_word (m := ⟨16, 2⟩) (meth := k16m2) (c := k16c2) (by decide +kernel) rfl rfl rfl (by decide +kernel)
def codes1 : List Jvm.Cond := [Jvm.Cond.code x code maxLocals ret, Jvm.Cond.code ({ cls := "java/lang/String", name := "<init>", desc := "([C)V" } : Jvm.MethodName) jdk_42_method_3_code (2 : Nat) (Option.none : Option Jvm.ClassFile.FieldType), Jvm.Cond.code ({ cls := "java/lang/String", name := "<init>", desc := "([CIILjava/lang/Void;)V" } : Jvm.MethodName) jdk_42_method_149_code (6 : Nat) (Option.none : Option Jvm.ClassFile.FieldType), Jvm.Cond.code ({ cls := "java/lang/Object", name := "<init>", desc := "()V" } : Jvm.MethodName) object_method_1_code (1 : Nat) (Option.none : Option Jvm.ClassFile.FieldType), Jvm.Cond.code ({ cls := "com/example/usage_throttle/usagethrottle/io/PolicyFields", name := "unknownField", desc := "(Ljava/lang/Object;)Lcom/example/usage_throttle/usagethrottle/io/InvalidPolicyException;" } : Jvm.MethodName) prog_8_method_6_code (1 : Nat) (Option.some (Jvm.ClassFile.FieldType.object "com/example/usage_throttle/usagethrottle/io/InvalidPolicyException")), Jvm.Cond.code ({ cls := "java/lang/StringBuilder", name := "<init>", desc := "()V" } : Jvm.MethodName) jdk_67_method_1_code (1 : Nat) (Option.none : Option Jvm.ClassFile.FieldType), Jvm.Cond.code ({ cls := "java/lang/AbstractStringBuilder", name := "<init>", desc := "(I)V" } : Jvm.MethodName) jdk_68_method_2_code (2 : Nat) (Option.none : Option Jvm.ClassFile.FieldType), Jvm.Cond.code ({ cls := "java/lang/StringBuilder", name := "append", desc := "(Ljava/lang/String;)Ljava/lang/StringBuilder;" } : Jvm.MethodName) jdk_67_method_7_code (2 : Nat) (Option.some (Jvm.ClassFile.FieldType.object "java/lang/StringBuilder")), Jvm.Cond.code ({ cls := "java/lang/AbstractStringBuilder", name := "append", desc := "(Ljava/lang/String;)Ljava/lang/AbstractStringBuilder;" } : Jvm.MethodName) jdk_68_method_22_code (3 : Nat) (Option.some (Jvm.ClassFile.FieldType.object "java/lang/AbstractStringBuilder")), Jvm.Cond.code ({ cls := "java/lang/String", name := "length", desc := "()I" } : Jvm.MethodName) jdk_42_method_54_code (1 : Nat) (Option.some Jvm.ClassFile.FieldType.int), Jvm.Cond.code ({ cls := "java/lang/String", name := "coder", desc := "()B" } : Jvm.MethodName) jdk_42_method_152_code (1 : Nat) (Option.some Jvm.ClassFile.FieldType.byte), Jvm.Cond.code ({ cls := "java/lang/AbstractStringBuilder", name := "ensureCapacityInternal", desc := "(I)V" } : Jvm.MethodName) jdk_68_method_9_code (3 : Nat) (Option.none : Option Jvm.ClassFile.FieldType), Jvm.Cond.code ({ cls := "java/lang/AbstractStringBuilder", name := "putStringAt", desc := "(ILjava/lang/String;)V" } : Jvm.MethodName) jdk_68_method_73_code (3 : Nat) (Option.none : Option Jvm.ClassFile.FieldType), Jvm.Cond.code ({ cls := "java/lang/AbstractStringBuilder", name := "inflateIfNeededFor", desc := "(Ljava/lang/String;)V" } : Jvm.MethodName) jdk_68_method_71_code (2 : Nat) (Option.none : Option Jvm.ClassFile.FieldType), Jvm.Cond.code ({ cls := "java/lang/String", name := "getBytes", desc := "([BIB)V" } : Jvm.MethodName) jdk_42_method_147_code (4 : Nat) (Option.none : Option Jvm.ClassFile.FieldType), Jvm.Cond.code ({ cls := "java/lang/StringBuilder", name := "append", desc := "(Ljava/lang/Object;)Ljava/lang/StringBuilder;" } : Jvm.MethodName) jdk_67_method_6_code (2 : Nat) (Option.some (Jvm.ClassFile.FieldType.object "java/lang/StringBuilder")), Jvm.Cond.code ({ cls := "java/lang/String", name := "valueOf", desc := "(Ljava/lang/Object;)Ljava/lang/String;" } : Jvm.MethodName) jdk_42_method_133_code (1 : Nat) (Option.some (Jvm.ClassFile.FieldType.object "java/lang/String")), Jvm.Cond.code ({ cls := "java/lang/String", name := "toString", desc := "()Ljava/lang/String;" } : Jvm.MethodName) jdk_42_method_126_code (1 : Nat) (Option.some (Jvm.ClassFile.FieldType.object "java/lang/String")), Jvm.Cond.code ({ cls := "java/lang/StringBuilder", name := "toString", desc := "()Ljava/lang/String;" } : Jvm.MethodName) jdk_67_method_42_code (1 : Nat) (Option.some (Jvm.ClassFile.FieldType.object "java/lang/String")), Jvm.Cond.code ({ cls := "java/lang/String", name := "<init>", desc := "(Ljava/lang/StringBuilder;)V" } : Jvm.MethodName) jdk_42_method_53_code (2 : Nat) (Option.none : Option Jvm.ClassFile.FieldType), Jvm.Cond.code ({ cls := "java/lang/String", name := "<init>", desc := "(Ljava/lang/AbstractStringBuilder;Ljava/lang/Void;)V" } : Jvm.MethodName) jdk_42_method_150_code (5 : Nat) (Option.none : Option Jvm.ClassFile.FieldType), Jvm.Cond.code ({ cls := "java/lang/AbstractStringBuilder", name := "getValue", desc := "()[B" } : Jvm.MethodName) jdk_68_method_64_code (1 : Nat) (Option.some (Jvm.ClassFile.FieldType.array Jvm.ClassFile.FieldType.byte)), Jvm.Cond.code ({ cls := "java/lang/StringBuilder", name := "length", desc := "()I" } : Jvm.MethodName) jdk_67_method_93_code (1 : Nat) (Option.some Jvm.ClassFile.FieldType.int), Jvm.Cond.code ({ cls := "java/lang/AbstractStringBuilder", name := "length", desc := "()I" } : Jvm.MethodName) jdk_68_method_6_code (1 : Nat) (Option.some Jvm.ClassFile.FieldType.int), Jvm.Cond.code ({ cls := "java/lang/AbstractStringBuilder", name := "isLatin1", desc := "()Z" } : Jvm.MethodName) jdk_68_method_68_code (1 : Nat) (Option.some Jvm.ClassFile.FieldType.boolean), Jvm.Cond.code ({ cls := "java/util/Arrays", name := "copyOfRange", desc := "([BII)[B" } : Jvm.MethodName) jdk_65_method_132_code (3 : Nat) (Option.some (Jvm.ClassFile.FieldType.array Jvm.ClassFile.FieldType.byte)), Jvm.Cond.code ({ cls := "com/example/usage_throttle/usagethrottle/io/InvalidPolicyException", name := "<init>", desc := "(Ljava/lang/String;)V" } : Jvm.MethodName) prog_4_method_1_code (2 : Nat) (Option.none : Option Jvm.ClassFile.FieldType), Jvm.Cond.code ({ cls := "java/lang/Exception", name := "<init>", desc := "(Ljava/lang/String;)V" } : Jvm.MethodName) jdk_59_method_2_code (2 : Nat) (Option.none : Option Jvm.ClassFile.FieldType), Jvm.Cond.code ({ cls := "java/lang/Throwable", name := "<init>", desc := "(Ljava/lang/String;)V" } : Jvm.MethodName) jdk_78_method_2_code (2 : Nat) (Option.none : Option Jvm.ClassFile.FieldType), Jvm.Cond.code ({ cls := "java/lang/Throwable", name := "<init>", desc := "()V" } : Jvm.MethodName) jdk_78_method_1_code (1 : Nat) (Option.none : Option Jvm.ClassFile.FieldType), Jvm.Cond.code ({ cls := "java/lang/Throwable", name := "getMessage", desc := "()Ljava/lang/String;" } : Jvm.MethodName) jdk_78_method_6_code (1 : Nat) (Option.some (Jvm.ClassFile.FieldType.object "java/lang/String")), Jvm.Cond.code ({ cls := "java/lang/StringUTF16", name := "compress", desc := "([CII)[B" } : Jvm.MethodName) jdk_52_method_16_code (6 : Nat) (Option.some (Jvm.ClassFile.FieldType.array Jvm.ClassFile.FieldType.byte)), Jvm.Cond.code ({ cls := "java/lang/StringUTF16", name := "compress", desc := "([CI[BII)I" } : Jvm.MethodName) jdk_52_method_21_code (7 : Nat) (Option.some Jvm.ClassFile.FieldType.int), Jvm.Cond.code ({ cls := "java/lang/StringUTF16", name := "coderFromArrayLen", desc := "([BI)B" } : Jvm.MethodName) jdk_52_method_15_code (2 : Nat) (Option.some Jvm.ClassFile.FieldType.byte), Jvm.Cond.code ({ cls := "java/lang/String", name := "equals", desc := "(Ljava/lang/Object;)Z" } : Jvm.MethodName) jdk_42_method_66_code (3 : Nat) (Option.some Jvm.ClassFile.FieldType.boolean), Jvm.Cond.code ({ cls := "java/lang/StringLatin1", name := "equals", desc := "([B[B)Z" } : Jvm.MethodName) jdk_43_method_13_code (3 : Nat) (Option.some Jvm.ClassFile.FieldType.boolean), Jvm.Cond.code ({ cls := "java/lang/AbstractStringBuilder", name := "newCapacity", desc := "(I)I" } : Jvm.MethodName) jdk_68_method_10_code (6 : Nat) (Option.some Jvm.ClassFile.FieldType.int), Jvm.Cond.code ({ cls := "jdk/internal/util/ArraysSupport", name := "newLength", desc := "(III)I" } : Jvm.MethodName) jdk_48_method_27_code (4 : Nat) (Option.some Jvm.ClassFile.FieldType.int), Jvm.Cond.code ({ cls := "java/lang/Math", name := "max", desc := "(II)I" } : Jvm.MethodName) jdk_29_method_65_code (2 : Nat) (Option.some Jvm.ClassFile.FieldType.int), Jvm.Cond.code ({ cls := "java/util/Arrays", name := "copyOf", desc := "([BI)[B" } : Jvm.MethodName) jdk_65_method_121_code (3 : Nat) (Option.some (Jvm.ClassFile.FieldType.array Jvm.ClassFile.FieldType.byte)), Jvm.Cond.code ({ cls := "java/lang/Math", name := "min", desc := "(II)I" } : Jvm.MethodName) jdk_29_method_69_code (2 : Nat) (Option.some Jvm.ClassFile.FieldType.int), Jvm.Cond.code ({ cls := "java/util/Arrays", name := "copyOfRangeByte", desc := "([BII)[B" } : Jvm.MethodName) jdk_65_method_133_code (5 : Nat) (Option.some (Jvm.ClassFile.FieldType.array Jvm.ClassFile.FieldType.byte)), Jvm.Cond.code ({ cls := "java/util/Arrays", name := "checkLength", desc := "(II)V" } : Jvm.MethodName) jdk_65_method_131_code (2 : Nat) (Option.none : Option Jvm.ClassFile.FieldType)]
set_option maxRecDepth 65536 in
theorem codes_eq : words1.filter isCode = codes1 := rfl
theorem w_codes : ∀ c ∈ words1.filter isCode, c.before args0 about1 = true := by
  rw [codes_eq]
  intro c hc
  simp only [codes1, List.mem_cons, List.not_mem_nil, or_false] at hc
  rcases hc with rfl | rfl | rfl | rfl | rfl | rfl | rfl | rfl | rfl | rfl | rfl | rfl | rfl | rfl | rfl | rfl | rfl | rfl | rfl | rfl | rfl | rfl | rfl | rfl | rfl | rfl | rfl | rfl | rfl | rfl | rfl | rfl | rfl | rfl | rfl | rfl | rfl | rfl | rfl | rfl | rfl | rfl | rfl
  · exact w_c0
  · exact w_c1
  · exact w_c2
  · exact w_c3
  · exact w_c4
  · exact w_c5
  · exact w_c6
  · exact w_c7
  · exact w_c8
  · exact w_c9
  · exact w_c10
  · exact w_c11
  · exact w_c12
  · exact w_c13
  · exact w_c14
  · exact w_c15
  · exact w_c16
  · exact w_c17
  · exact w_c18
  · exact w_c19
  · exact w_c20
  · exact w_c21
  · exact w_c22
  · exact w_c23
  · exact w_c24
  · exact w_c25
  · exact w_c26
  · exact w_c27
  · exact w_c28
  · exact w_c29
  · exact w_c30
  · exact w_c31
  · exact w_c32
  · exact w_c33
  · exact w_c34
  · exact w_c35
  · exact w_c36
  · exact w_c37
  · exact w_c38
  · exact w_c39
  · exact w_c40
  · exact w_c41
  · exact w_c42
set_option maxRecDepth 65536 in
theorem w_t1 : (words1.take 24).all (fun c => isCode c || c.before args0 about1) = true := by decide +kernel
set_option maxRecDepth 65536 in
theorem w_t2 : ((words1.drop 24).take 24).all (fun c => isCode c || c.before args0 about1) = true := by decide +kernel
set_option maxRecDepth 65536 in
theorem w_t3 : (((words1.drop 24).drop 24).take 24).all (fun c => isCode c || c.before args0 about1) = true := by decide +kernel
set_option maxRecDepth 65536 in
theorem w_t4 : ((((words1.drop 24).drop 24).drop 24).take 24).all (fun c => isCode c || c.before args0 about1) = true := by decide +kernel
set_option maxRecDepth 65536 in
theorem w_t5 : (((((words1.drop 24).drop 24).drop 24).drop 24).take 24).all (fun c => isCode c || c.before args0 about1) = true := by decide +kernel
set_option maxRecDepth 65536 in
theorem w_t6 : ((((((words1.drop 24).drop 24).drop 24).drop 24).drop 24).take 24).all (fun c => isCode c || c.before args0 about1) = true := by decide +kernel
set_option maxRecDepth 65536 in
theorem w_t7 : (((((((words1.drop 24).drop 24).drop 24).drop 24).drop 24).drop 24).take 24).all (fun c => isCode c || c.before args0 about1) = true := by decide +kernel
set_option maxRecDepth 65536 in
theorem w_t8 : ((((((((words1.drop 24).drop 24).drop 24).drop 24).drop 24).drop 24).drop 24).take 24).all (fun c => isCode c || c.before args0 about1) = true := by decide +kernel
set_option maxRecDepth 65536 in
theorem w_t9 : (((((((((words1.drop 24).drop 24).drop 24).drop 24).drop 24).drop 24).drop 24).drop 24).take 24).all (fun c => isCode c || c.before args0 about1) = true := by decide +kernel
set_option maxRecDepth 65536 in
theorem w_t10 : ((((((((((words1.drop 24).drop 24).drop 24).drop 24).drop 24).drop 24).drop 24).drop 24).drop 24).take 24).all (fun c => isCode c || c.before args0 about1) = true := by decide +kernel
set_option maxRecDepth 65536 in
theorem w_t11 : ((((((((((words1.drop 24).drop 24).drop 24).drop 24).drop 24).drop 24).drop 24).drop 24).drop 24).drop 24).all (fun c => isCode c || c.before args0 about1) = true := by decide +kernel
theorem w_tables : (allAtoms (Jvm.Cond.code x code maxLocals ret :: tables_1)).before args0 about1 = true := by
  rw [allAtoms_all]
  show words1.all (fun c => c.before args0 about1) = true
  refine all_split ?_ w_codes
  rw [← List.take_append_drop 24 words1, List.all_append, w_t1, ← List.take_append_drop 24 (words1.drop 24), List.all_append, w_t2, ← List.take_append_drop 24 ((words1.drop 24).drop 24), List.all_append, w_t3, ← List.take_append_drop 24 (((words1.drop 24).drop 24).drop 24), List.all_append, w_t4, ← List.take_append_drop 24 ((((words1.drop 24).drop 24).drop 24).drop 24), List.all_append, w_t5, ← List.take_append_drop 24 (((((words1.drop 24).drop 24).drop 24).drop 24).drop 24), List.all_append, w_t6, ← List.take_append_drop 24 ((((((words1.drop 24).drop 24).drop 24).drop 24).drop 24).drop 24), List.all_append, w_t7, ← List.take_append_drop 24 (((((((words1.drop 24).drop 24).drop 24).drop 24).drop 24).drop 24).drop 24), List.all_append, w_t8, ← List.take_append_drop 24 ((((((((words1.drop 24).drop 24).drop 24).drop 24).drop 24).drop 24).drop 24).drop 24), List.all_append, w_t9, ← List.take_append_drop 24 (((((((((words1.drop 24).drop 24).drop 24).drop 24).drop 24).drop 24).drop 24).drop 24).drop 24), List.all_append, w_t10, w_t11]
  rfl
set_option maxRecDepth 65536 in
theorem w_rest : rest_1_c.before args0 about1 = true := by decide +kernel
set_option maxRecDepth 65536 in
theorem w_case : (Jvm.Cond.and given_1 narrow_1).before args0 about1 = true := by decide +kernel
set_option maxRecDepth 65536 in
theorem w_consts : constsHeld consts_1 about1 := Jvm.Lit.constsHeldB_iff.mp (by decide +kernel)
theorem w_applies : (headSpec (Jvm.Cond.code x code maxLocals ret :: tables_1) room_1).applies x e0.platform about1 = true :=
  (Spec.applies_iff w_frames).mpr ⟨w_running, w_runnable, w_alone, w_named, w_hears, w_ripe, w_room, w_tables⟩
theorem atStart : AtStart classFile x code maxLocals ret World_1 tables_1 room_1 Calls_1 rest_1 Pre_1 launch0 p0 e0 about1 theMethod args0 below0 :=
  ⟨lists_1, trivial, launch0.admits_env _ _ _, launch0.least_env, fairChoices_fair.cas, fairChoices_fair.clock, w_frames, w_args, w_heap, w_applies, ⟨(by decide +kernel : framesKnown about1 = true), ⟨(by decide +kernel : tablesKnown about1 = true), ⟨w_consts, trivial⟩⟩⟩, w_rest, w_case⟩
end start1
theorem witness_1 : WitnessClaimed_1 := ⟨start1.p0, start1.e0, start1.about1, start1.theMethod, start1.args0, start1.below0, start1.atStart⟩
end Jvm.Pilot.@@N@@
