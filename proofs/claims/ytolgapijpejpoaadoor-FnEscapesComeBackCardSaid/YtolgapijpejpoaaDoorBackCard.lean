/- For all units and all choices the law FnEscapesComeBack answers true: the inside of a string of any units, written in any way, means these units. Conditions: none beyond the row's own (the listed tables of the library read as the program's text lays them; the card ties them). -/
import Derived.Test.YtolgapijpejpoaaDoorCards
import Derived.Test.YtolgapijpejpoaaDoorTie
import Derived.Test.YtolgapijpejpoaaDoorBk
import Derived.Test.YtolgapijpejpoaaDoorTab
import Derived.ProofKit
import Derived.LaidMore
import Derived.OpenShut
import Derived.Stop.Joined
import Derived.SevenTiedAt
namespace Go.Proofs.YtolgapijpejpoaaDoor.fnEscapesComeBack
open Go.ChangeShapes Go.WideShapes Go.ChangeAt Go.RowKit Go.Lib

theorem own : ownKnob Tryd.prog.godebug = none := by kernel_rfl
theorem laidOut : laidOutB Tryd.prog = true := by kernel_rfl
theorem cells41 : Tryd.prog.cellsOf 41 = 1 := by kernel_rfl
theorem cells3 : Tryd.prog.cellsOf 3 = 1 := by kernel_rfl
theorem first_is : (Rows.laid_unicode_utf8_first : DataW Unit) = firstData := by kernel_rfl
theorem accept_is : (Rows.laid_unicode_utf8_acceptRanges : DataW Unit) = acceptData := by kernel_rfl
theorem deb_is : (Rows.laid_math_bits_deBruijn64tab : DataW Unit) = tabData .u8 (numsOf (Rows.laid_math_bits_deBruijn64tab (H := Unit))) := by kernel_rfl
theorem deb_15 : (numsOf (Rows.laid_math_bits_deBruijn64tab (H := Unit)))[15]? = some 4 := by kernel_rfl
theorem gDeb : Tryd.prog.globalNamed "math/bits.deBruijn64tab" = some 6 := by kernel_rfl
theorem tDeb : (Tryd.prog.globals[6]?).map (·.type) = some 181 := by kernel_rfl
theorem c64 : Tryd.prog.cellsOf 181 = 64 := by kernel_rfl
theorem c5 : Tryd.prog.cellsOf 5 = 1 := by kernel_rfl

theorem deb_cell {w : World} (h : VarReads Tryd.prog w "math/bits.deBruijn64tab" Rows.laid_math_bits_deBruijn64tab) : w.cell? ⟨6, 15, none⟩ = some (.int .u8 4) := by
  obtain ⟨g, t, cs, fuel, p, hg, hty, hvar, hd⟩ := h
  obtain rfl := Option.some.inj (gDeb.symm.trans hg)
  obtain rfl := Option.some.inj (tDeb.symm.trans hty)
  rw [deb_is] at hd
  have hcs := cells_of_tab Tryd.underlying181 Tryd.underlying5 c5 c64 hd
  rw [World.var?_cell hg hvar 15, ← Array.getElem?_toList, hcs, List.getElem?_map, deb_15]
  rfl

/-- A WORLD FOR THE WITNESS: the door's own, utf8.first laid too. -/
noncomputable def laidWorld (os : Os) : World :=
  { World.doorLaid Tryd.prog 224 os with heap := (World.doorLaid Tryd.prog 224 os).heap.modify 2 fun
      | .cells _ t frozen => .cells (firstTab.map fun z => Value.int .u8 z).toArray t frozen
      | o => o }
theorem door_met (os : Os) (args : Array Value) : laidMetH Tryd.prog Rows.fnEscapesComeBackRow.laid ((laidWorld os).forCall (fun _ _ => 0) ⟨#[], args, []⟩).memory :=
  laidMetH_of_parts3 (fuel := 8) (laidMet_of_run' 8 (by kernel_rfl) (by kernel_rfl)) (by kernel_rfl) (by kernel_rfl)

theorem units_nat {zs : List Int} (h : ∀ n ∈ zs, (Lit.int .u16 n).wf = true) : ∀ x ∈ zs.map Int.toNat, x < 65536 := by
  intro x hx
  obtain ⟨z, hz, rfl⟩ := List.mem_map.1 hx
  have := h z hz
  simp [Lit.wf, IntKind.min, IntKind.max, IntKind.signed, IntKind.bits] at this
  omega
theorem unit_at {zs : List Int} (h : ∀ n ∈ zs, (Lit.int .u16 n).wf = true) {k : Nat} (hk : k < zs.length) : zs.getD k 0 = (((zs.map Int.toNat).getD k 0 : Nat) : Int) := by
  have hz := h _ (List.getElem_mem hk)
  rw [List.getD_eq_getElem?_getD, List.getD_eq_getElem?_getD, List.getElem?_map, List.getElem?_eq_getElem hk]
  simp [Lit.wf, IntKind.min, IntKind.max, IntKind.signed, IntKind.bits] at hz
  simp only [Option.getD_some, Option.map_some]
  omega

set_option maxRecDepth 100000 in
theorem lifted (os : Os) (started : os.Started) (H : Type) (enc : TypeId × Value → H) :
    ReturnsInHanded {} Tryd.checked os 5 .any (fun w args => (Rows.fnEscapesComeBackSpec.pre enc Tryd.prog Tryd.f5 [] false w args ∧ laidMetH Tryd.prog Rows.fnEscapesComeBackRow.laid w) ∧ sizedMet enc Tryd.prog Tryd.f5 (OpenSpec.ofChange Rows.fnEscapesComeBackSpec) false w args)
      (Rows.fnEscapesComeBackSpec.post enc Tryd.prog Tryd.f5 false true false false) := by
  refine returnsInHanded_of_change_and (C := Tryd.checked) (X := fun w _ => laidMetH Tryd.prog Rows.fnEscapesComeBackRow.laid w) (fun _ _ _ hh h => h.of_heap hh) own started (by kernel_rfl) Tryd.func5
    (ChangeSpec.witness_shaped (enc := enc) (C := Tryd.checked) (os := os) (X := fun w _ => laidMetH Tryd.prog Rows.fnEscapesComeBackRow.laid w) false (laidWorld os) #[.slice none 0 0, .slice none 0 0] 8 rfl (World.shaped_of_RefB (by kernel_rfl) (by kernel_rfl)) (by kernel_rfl) (by kernel_rfl) (by kernel_rfl) (door_met os _)) ?_
  intro W base args ds gs before hval0 hW _ _ hL _
  have hval : ∀ (j : Nat) t v, Tryd.f5.params[j]? = some t → args[j]? = some v → Value.okWide Tryd.prog W .any base t v := hval0
  have hW' := hW
  obtain ⟨p, q, hA0, hV, rfl, hfz, hnd⟩ := hW
  have hA : DataW.TrodAll enc Tryd.prog W 0 (fun _ => true) true Tryd.f5.params.toList args.toList ds p := hA0
  rw [Tryd.params5] at hA hval
  obtain ⟨v0, v1, d0, d1, p0, p1, rfl, rfl, rfl, h0, h1⟩ := trodAll_two hA
  obtain ⟨rfl, rfl⟩ := trodVars_none hV
  obtain ⟨a0, len0, cap0, rfl⟩ := okWide_slice Tryd.underlying23 (hval 0 23 v0 rfl rfl)
  obtain ⟨a1, len1, cap1, rfl⟩ := okWide_slice Tryd.underlying29 (hval 1 29 v1 rfl rfl)
  have h0k := h0
  have h1k := h1
  obtain ⟨fu0, hf0⟩ := h0
  obtain ⟨fu1, hf1⟩ := h1
  clear hA0 hval0
  simp only [List.append_nil] at hW'
  have hlt : ∀ x ∈ p0 ++ p1, x.block < W.heap.size := fun x hx => by simpa using hW'.lt x hx
  have hL2 : laidMet Tryd.prog Rows.fnEscapesComeBackRow.laid W := by
    have hL1 : laidMetH Tryd.prog Rows.fnEscapesComeBackRow.laid W := hL
    rw [MakeChecks.laidMetH_plain _ _ _ (by kernel_rfl)] at hL1
    exact hL1
  have r1 : VarReads Tryd.prog W "unicode/utf8.first" firstData := by rw [← first_is]; exact laidMet.reads hL2 (by simp [Rows.fnEscapesComeBackRow])
  have r2 : VarReads Tryd.prog W "unicode/utf8.acceptRanges" acceptData := by rw [← accept_is]; exact laidMet.reads hL2 (by simp [Rows.fnEscapesComeBackRow])
  have r3 : VarReads Tryd.prog W "math/bits.deBruijn64tab" Rows.laid_math_bits_deBruijn64tab := laidMet.reads hL2 (by simp [Rows.fnEscapesComeBackRow])
  have hT := tabs_of r1 r2
  have hD := deb_cell r3
  obtain ⟨xs, hxl, hx6, hu, hxm⟩ : ∃ xs : List Nat, xs.length = len0 ∧ (∀ x ∈ xs, x < 65536) ∧ UIn W (.slice a0 len0 cap0) xs ∧ len0 ≤ maxLen := by
    rcases open_ints Tryd.underlying23 Tryd.underlying41 cells41 hf0 with ⟨hcs, hx⟩ | ⟨a, len', cap', zs, hcs, _, hl, hm, hz, hx, hcell, hwz⟩
    · simp [Value.cells] at hcs
      obtain ⟨rfl, rfl, rfl⟩ := hcs
      exact ⟨[], rfl, by simp, .inl ⟨⟨none, 0, rfl⟩, rfl⟩, by decide⟩
    · simp [Value.cells] at hcs
      obtain ⟨rfl, rfl, rfl⟩ := hcs
      simp only [if_true] at hz
      have hlen : ((zs.take len0).map Int.toNat).length = len0 := by rw [List.length_map, List.length_take]; omega
      refine ⟨(zs.take len0).map Int.toNat, hlen, units_nat (fun n hn => hwz n (List.mem_of_mem_take hn)), ?_, Nat.le_trans hl hm⟩
      by_cases hpos : len0 = 0
      · left
        refine ⟨⟨some a, cap0, by rw [hpos]⟩, ?_⟩
        exact List.length_eq_zero_iff.1 (by rw [hlen, hpos])
      · right
        have ha := cell0 (hcell 0 (by omega))
        have hadd : ∀ i, i < zs.length → a.add i = ⟨a.block, a.off + i, none⟩ := by
          intro i hi
          have e := cell0 (hcell i hi)
          have e0 := cell0 (hcell 0 (by omega))
          have hs : a.spot = none := by
            cases a with
            | mk b o s =>
              cases s with
              | none => rfl
              | some s => simp [Addr.add] at e0
          cases a with
          | mk b o s => simp at hs; subst hs; exact add_plain _ _ _
        have hsp : a = ⟨a.block, a.off, none⟩ := by
          have e := hadd 0 (by omega)
          cases a with
          | mk b o s =>
            cases s with
            | none => rfl
            | some s => simp [Addr.add] at e
        refine ⟨a.block, a.off, cap0, by rw [hlen, ← hsp], by rw [hlen]; exact hl, hm, ?_, fun k hk => ?_⟩
        · exact World.block_lt_of_cell? W ⟨a.block, a.off + 0, none⟩ (by rw [← hadd 0 (by omega)]; exact hcell 0 (by omega))
        · rw [hlen] at hk
          have hk' : k < (zs.take len0).length := by rw [List.length_take]; omega
          rw [← hadd k (by omega), hcell k (by omega), ← unit_at (fun n hn => hwz n (List.mem_of_mem_take hn)) hk']
          rw [List.getD_eq_getElem?_getD, List.getD_eq_getElem?_getD, List.getElem?_take, if_pos hk]
  obtain ⟨hN, hnm⟩ : NIn W (.slice a1 len1 cap1) len1 ∧ len1 ≤ maxLen := by
    rcases open_ints Tryd.underlying29 Tryd.underlying3 cells3 hf1 with ⟨hcs, hx⟩ | ⟨a, len', cap', zs, hcs, _, hl, hm, hz, hx, hcell, hwz⟩
    · simp [Value.cells] at hcs
      obtain ⟨rfl, rfl, rfl⟩ := hcs
      exact ⟨.inl ⟨⟨none, 0, rfl⟩, rfl⟩, by decide⟩
    · simp [Value.cells] at hcs
      obtain ⟨rfl, rfl, rfl⟩ := hcs
      simp only [if_true] at hz
      refine ⟨?_, Nat.le_trans hl hm⟩
      by_cases hpos : len1 = 0
      · left
        exact ⟨⟨some a, cap1, by rw [hpos]⟩, hpos⟩
      · right
        have hsp : a = ⟨a.block, a.off, none⟩ := by
          have e := cell0 (hcell 0 (by omega))
          cases a with
          | mk b o s =>
            cases s with
            | none => rfl
            | some s => simp [Addr.add] at e
        have hadd : ∀ i, a.add i = ⟨a.block, a.off + i, none⟩ := by
          intro i
          rw [hsp]
          exact add_plain _ _ _
        refine ⟨a.block, a.off, cap1, by rw [← hsp], hl, hm, ?_, fun k hk => ?_⟩
        · exact World.block_lt_of_cell? W ⟨a.block, a.off + 0, none⟩ (by rw [← hadd 0]; exact hcell 0 (by omega))
        · have hw := hwz _ (List.getElem_mem (show k < zs.length by omega))
          refine ⟨zs.getD k 0, ?_, ?_, by rw [← hadd k]; exact hcell k (by omega)⟩
          all_goals
            rw [List.getD_eq_getElem?_getD, List.getElem?_eq_getElem (show k < zs.length by omega)]
            simp [Lit.wf, IntKind.min, IntKind.max, IntKind.signed, IntKind.bits] at hw
            simp only [Option.getD_some]
            omega
  refine (back_any (B := W.heap.size) hT (Nat.le_refl _) hu hN (by rw [hxl]; exact hxm) hnm hx6 hD).mono fun e W' ⟨he, hb⟩ => ?_
  subst he
  refine ⟨_, rfl, ⟨_, _, _, [], p0 ++ p1, [], hW', ?_, ?_, rfl, hb.frame _, fun h => by cases h⟩⟩
  · exact trodAll_mk1 (shut_bool Tryd.underlying4 _)
  · exact trodAll_mk2 (Below.trod laidOut (by kernel_rfl) (of_decide_eq_true (by kernel_rfl)) h0k hb (fun x hx => hlt x (List.mem_append_left _ hx))) (Below.trod laidOut (by kernel_rfl) (of_decide_eq_true (by kernel_rfl)) h1k hb (fun x hx => hlt x (List.mem_append_right _ hx)))

theorem said : Rows.FnEscapesComeBackSaid :=
  OpenClaim.holds_of_wide 5 Tryd.f5 rfl rfl rfl rfl rfl rfl rfl ⟨rfl, rfl, rfl, rfl, rfl⟩ rfl rfl rfl rfl rfl (by kernel_rfl) Tryd.func5 (by kernel_rfl)
    (of_decide_eq_true (by kernel_rfl)) (by unfold Func.isWrapper; first | (rw [if_pos (by decide +kernel)]; kernel_rfl) | (rw [if_neg (by decide +kernel)]; exact ⟨rfl, rfl⟩))
    (fun os started H enc _ => lifted os started H enc)

/-- No parameter wants a stand-in; the program's own looks: what the card asks. -/
theorem plain (f : FuncId) (fn : Func) (hf : Tryd.pinned.checked.prog.funcNamed "scripttokens/laws.FnEscapesComeBack" = some f) (hfn : Tryd.pinned.checked.prog.funcs[f]? = some fn) :
    true = Tryd.pinned.checked.prog.looks [] ∧ ∀ (j : Nat) t, fn.params[j]? = some t → Tryd.pinned.checked.prog.wantsStandIn t = false := by
  obtain rfl : f = 5 := Option.some.inj ((show Tryd.prog.funcNamed "scripttokens/laws.FnEscapesComeBack" = some 5 by kernel_rfl).symm.trans hf) |>.symm
  obtain rfl : fn = Tryd.f5 := (Option.some.inj (Tryd.func5.symm.trans hfn)).symm
  refine ⟨by kernel_rfl, fun j t ht => ?_⟩
  rw [Tryd.params5] at ht
  have hm : t = 23 ∨ t = 29 := by simpa using Array.mem_of_getElem? ht
  rcases hm with rfl | rfl
  · exact (show Tryd.prog.wantsStandIn 23 = false by kernel_rfl)
  · exact (show Tryd.prog.wantsStandIn 29 = false by kernel_rfl)

theorem card : Rows.FnEscapesComeBackCardSaid :=
  Claim7.holds_tied_plain_at .later [] _ _ _ _ said (fun _ h => by cases h) (by kernel_rfl) (fun _ h => by cases h) fnEscapesComeBack_row_tie rfl ⟨rfl, rfl⟩ (by kernel_rfl) rfl plain (by kernel_rfl)
#print axioms card
end Go.Proofs.YtolgapijpejpoaaDoor.fnEscapesComeBack
