/- For all texts the law FnTemplate answers true: a template without substitutions means the units that the standard says, and its raw text has one line feed for each end of a line. Conditions: none beyond the row's own (the listed tables of the library and the reference's two lists of words read as the program's text lays them; the card ties them). -/
import Derived.Test.YthknielnhmoobaaGreatDoorRows
import Derived.Test.YthknielnhmoobaaGreatDoorTab
import Derived.Test.YthknielnhmoobaaGreatDoorZi
import Derived.SliceStrings
import Derived.Test.YthknielnhmoobaaGreatDoorCards
import Derived.Test.YthknielnhmoobaaGreatDoorTie
import Derived.Test.YthknielnhmoobaaGreatDoorYe
import Derived.ProofKit
import Derived.LaidMore
import Derived.OpenShut
import Derived.Stop.Joined
import Derived.ChangeMaps5
import Derived.SevenTiedAt
namespace Go.Proofs.YthknielnhmoobaaGreatDoor
open Go.RowKit Go.Lib Go.ChangeShapes

theorem c9 : Tryz.prog.cellsOf 9 = 1 := by kernel_rfl
/-- The strings of a slice. -/
def wordsOf {H : Type} : DataW H → List (List UInt8)
  | .slice es _ => es.map fun d => match d with | .lit (.string l) => l | _ => []
  | _ => []
theorem words_of {W : World} {nm : String} {g : Nat} {D : DataW Unit} (h : VarReads Tryz.prog W nm D) (hg : Tryz.prog.globalNamed nm = some g) (ht : (Tryz.prog.globals[g]?).map (·.type) = some 105) (hD : ∃ es, D = .slice es []) (hpos : 0 < (wordsOf D).length) :
    ∃ (b o n : Nat) (ws : List ByteArray), WordsAt W g b o n ws ∧ ws.map (fun s => s.data.toList) = wordsOf D ∧ g < W.heap.size ∧ b < W.heap.size := by
  obtain ⟨g0, t0, cs, fuel, p, e1, e2, e3, e4⟩ := h
  obtain rfl := Option.some.inj (hg.symm.trans e1)
  obtain rfl := Option.some.inj (ht.symm.trans e2)
  obtain ⟨es, rfl⟩ := hD
  rcases open_strings Tryz.underlying105 Tryz.underlying9 c9 e4 with ⟨_, hx⟩ | ⟨a, len, cap, ss, hcs, _, hl, hm, hz, hx, hcell, _⟩
  · cases hx
  simp only [Prod.mk.injEq] at hx
  simp only [if_true] at hz
  obtain ⟨hx, _⟩ := hx
  injection hx with h1 h2
  have hdrop : ss.drop len = [] := by simpa [strs] using h2.symm
  have hle : ss.length ≤ len := by simpa using hdrop
  obtain rfl : len = cap := by omega
  rw [List.take_of_length_le (by omega)] at h1
  have hw : ss.map (fun s => s.data.toList) = wordsOf (.slice es [] : DataW Unit) := by
    rw [h1]
    simp only [wordsOf, strs, List.map_map]
    exact (List.map_congr_left (fun _ _ => rfl)).symm
  have hp : 0 < ss.length := by rw [← List.length_map (f := fun s : ByteArray => s.data.toList), hw]; exact hpos
  have ha : a.spot = none := by
    have := hcell 0 hp
    simp only [Addr.add, if_true] at this
    exact congrArg Addr.spot (cell0 this)
  have hadd : ∀ i, a.add i = ⟨a.block, a.off + i, none⟩ := by
    intro i
    unfold Addr.add
    split
    · rename_i h; subst h; cases a; simp at ha; subst ha; rfl
    · rfl
  have haa : a = ⟨a.block, a.off, none⟩ := by cases a; simp at ha; subst ha; rfl
  have c0 : W.cell? ⟨g, 0, none⟩ = some (.slice (some ⟨a.block, a.off, none⟩) len len) := by
    have := World.var?_cell e1 e3 0
    rw [show cs = #[.slice (some a) len len] from Array.toList_inj.1 hcs] at this
    rw [← haa]
    simpa using this
  have c1 := hcell 0 hp
  rw [hadd] at c1
  exact ⟨a.block, a.off, len, ss, ⟨c0, hz, fun i hi => by rw [← hadd]; exact hcell i (by omega)⟩, hw, World.block_lt_of_cell? W _ c0, World.block_lt_of_cell? W ⟨a.block, a.off + 0, none⟩ c1⟩
theorem full_of {ws : List ByteArray} {l : List (List UInt8)} (h : ws.map (fun s => s.data.toList) = l) (hl : l.all (fun x => decide (1 ≤ x.length ∧ x.length ≤ 4)) = true) : ∀ k, k < ws.length → 1 ≤ (ws.getD k ByteArray.empty).size ∧ (ws.getD k ByteArray.empty).size ≤ 4 := by
  intro k hk
  rw [List.getD_eq_getElem?_getD, List.getElem?_eq_getElem hk]
  have hm : (ws[k]).data.toList ∈ l := by rw [← h]; exact List.mem_map_of_mem (List.getElem_mem hk)
  have := List.all_eq_true.1 hl _ hm
  simpa using this
theorem gWords : Tryz.prog.globalNamed "scripttokens/spec.words" = some 3 := by kernel_rfl
theorem tWords : (Tryz.prog.globals[3]?).map (·.type) = some 105 := by kernel_rfl
theorem gSigns : Tryz.prog.globalNamed "scripttokens/spec.signs" = some 2 := by kernel_rfl
theorem tSigns : (Tryz.prog.globals[2]?).map (·.type) = some 105 := by kernel_rfl
theorem nWords : (wordsOf (Rows.laid_scripttokens_spec_words (H := Unit))).length = 36 := by decide +kernel
theorem nSigns : (wordsOf (Rows.laid_scripttokens_spec_signs (H := Unit))).length = 58 := by decide +kernel
theorem fSigns : (wordsOf (Rows.laid_scripttokens_spec_signs (H := Unit))).all (fun x => decide (1 ≤ x.length ∧ x.length ≤ 4)) = true := by decide +kernel
theorem lists_of {W : World} (h1 : VarReads Tryz.prog W "scripttokens/spec.words" Rows.laid_scripttokens_spec_words) (h2 : VarReads Tryz.prog W "scripttokens/spec.signs" Rows.laid_scripttokens_spec_signs) :
    ∃ wb wo wn ws sb so sn ss, Lists W.heap.size W wb wo wn ws sb so sn ss := by
  obtain ⟨wb, wo, wn, ws, a1, a2, a3, a4⟩ := words_of h1 gWords tWords ⟨_, rfl⟩ (by rw [nWords]; decide)
  obtain ⟨sb, so, sn, ss, b1, b2, b3, b4⟩ := words_of h2 gSigns tSigns ⟨_, rfl⟩ (by rw [nSigns]; decide)
  have la : ws.length = 36 := by rw [← nWords, ← a2, List.length_map]
  have lb : ss.length = 58 := by rw [← nSigns, ← b2, List.length_map]
  have fb := full_of b2 fSigns
  have ea := a1.2.1
  have eb := b1.2.1
  exact ⟨wb, wo, wn, ws, sb, so, sn, ss, a1, b1, by omega, by omega, fun k hk => fb k (by omega), a3, b3, a4, b4⟩
end Go.Proofs.YthknielnhmoobaaGreatDoor
namespace Go.Proofs.YthknielnhmoobaaGreatDoor.fnTemplate
open Go.ChangeShapes Go.WideShapes Go.ChangeAt Go.RowKit Go.Lib

theorem own : ownKnob Tryz.prog.godebug = none := by kernel_rfl
theorem laidOut : laidOutB Tryz.prog = true := by kernel_rfl
theorem first_is : (Rows.laid_unicode_utf8_first : DataW Unit) = firstData := by kernel_rfl
theorem accept_is : (Rows.laid_unicode_utf8_acceptRanges : DataW Unit) = acceptData := by kernel_rfl
/-- A WORLD FOR THE WITNESS: the door's own, utf8.first laid too. -/
noncomputable def laidWorld (os : Os) : World :=
  { World.doorLaid Tryz.prog 224 os with heap := (World.doorLaid Tryz.prog 224 os).heap.modify 0 fun
      | .cells _ t frozen => .cells (firstTab.map fun z => Value.int .u8 z).toArray t frozen
      | o => o }
theorem door_met (os : Os) (args : Array Value) : laidMetH Tryz.prog Rows.fnTemplateRow.laid ((laidWorld os).forCall (fun _ _ => 0) ⟨#[], args, []⟩).memory :=
  laidMetH_of_parts3 (fuel := 8) (laidMet_of_run' 8 (by kernel_rfl) (by kernel_rfl)) (by kernel_rfl) (by kernel_rfl)

set_option maxRecDepth 100000 in
theorem lifted (os : Os) (started : os.Started) (H : Type) (enc : TypeId × Value → H) :
    ReturnsInHanded {} Tryz.checked os 3 .any (fun w args => (Rows.fnTemplateSpec.pre enc Tryz.prog Tryz.f3 [] false w args ∧ laidMetH Tryz.prog Rows.fnTemplateRow.laid w) ∧ sizedMet enc Tryz.prog Tryz.f3 (OpenSpec.ofChange Rows.fnTemplateSpec) false w args)
      (Rows.fnTemplateSpec.post enc Tryz.prog Tryz.f3 false true false false) := by
  refine returnsInHanded_of_change_and (C := Tryz.checked) (X := fun w _ => laidMetH Tryz.prog Rows.fnTemplateRow.laid w) (fun _ _ _ hh h => h.of_heap hh) own started (by kernel_rfl) Tryz.func3
    (ChangeSpec.witness_shaped (enc := enc) (C := Tryz.checked) (os := os) (X := fun w _ => laidMetH Tryz.prog Rows.fnTemplateRow.laid w) false (laidWorld os) #[.string ByteArray.empty] 8 rfl (World.shaped_of_RefB (by kernel_rfl) (by kernel_rfl)) (by kernel_rfl) (by kernel_rfl) (by kernel_rfl) (door_met os _)) ?_
  intro W base args ds gs before hval0 hW _ _ hL _
  have hval : ∀ (j : Nat) t v, Tryz.f3.params[j]? = some t → args[j]? = some v → Value.okWide Tryz.prog W .any base t v := hval0
  have hW' := hW
  obtain ⟨p, q, hA0, hV, rfl, hfz, hnd⟩ := hW
  have hA : DataW.TrodAll enc Tryz.prog W 0 (fun _ => true) true Tryz.f3.params.toList args.toList ds p := hA0
  rw [Tryz.params3] at hA hval
  obtain ⟨v0, d0, rfl, rfl, h0⟩ := trodAll_one hA
  obtain ⟨rfl, rfl⟩ := trodVars_none hV
  obtain ⟨s, rfl, rfl, rfl, hs⟩ := ChangeMaps.open_string Tryz.underlying9 (hval 0 9 v0 rfl rfl) h0
  clear hA0 hval0
  simp only [List.append_nil] at hW'
  have hL2 : laidMet Tryz.prog Rows.fnTemplateRow.laid W := by
    have hL1 : laidMetH Tryz.prog Rows.fnTemplateRow.laid W := hL
    rw [MakeChecks.laidMetH_plain _ _ _ (by kernel_rfl)] at hL1
    exact hL1
  have r1 : VarReads Tryz.prog W "unicode/utf8.first" firstData := by rw [← first_is]; exact laidMet.reads hL2 (by simp [Rows.fnTemplateRow])
  have r2 : VarReads Tryz.prog W "unicode/utf8.acceptRanges" acceptData := by rw [← accept_is]; exact laidMet.reads hL2 (by simp [Rows.fnTemplateRow])
  have r3 : VarReads Tryz.prog W "scripttokens/spec.words" Rows.laid_scripttokens_spec_words := laidMet.reads hL2 (by simp [Rows.fnTemplateRow])
  have r4 : VarReads Tryz.prog W "scripttokens/spec.signs" Rows.laid_scripttokens_spec_signs := laidMet.reads hL2 (by simp [Rows.fnTemplateRow])
  have hT := tabs_of r1 r2
  obtain ⟨wb, wo, wn, ws, sb, so, sn, ss, hLists⟩ := lists_of r3 r4
  refine (fnTemplate_any s W W.heap.size hT (Nat.le_refl _) hs wb wo wn ws sb so sn ss hLists).mono fun e W' ⟨he, hb⟩ => ?_
  subst he
  refine ⟨_, rfl, ⟨_, _, _, [], [], [], hW', ?_, ?_, rfl, hb.frame _, fun h => by cases h⟩⟩
  · exact trodAll_mk1 (shut_bool Tryz.underlying4 _)
  · exact trodAll_mk1 (ChangeMaps.shut_string Tryz.underlying9 hs)

theorem said : Rows.FnTemplateSaid :=
  OpenClaim.holds_of_wide 3 Tryz.f3 rfl rfl rfl rfl rfl rfl rfl ⟨rfl, rfl, rfl, rfl, rfl⟩ rfl rfl rfl rfl rfl (by kernel_rfl) Tryz.func3 (by kernel_rfl)
    (of_decide_eq_true (by kernel_rfl)) (by unfold Func.isWrapper; first | (rw [if_pos (by decide +kernel)]; kernel_rfl) | (rw [if_neg (by decide +kernel)]; exact ⟨rfl, rfl⟩))
    (fun os started H enc _ => lifted os started H enc)

/-- No parameter wants a stand-in; the program's own looks: what the card asks. -/
theorem plain (f : FuncId) (fn : Func) (hf : Tryz.pinned.checked.prog.funcNamed "scripttokens/laws.FnTemplate" = some f) (hfn : Tryz.pinned.checked.prog.funcs[f]? = some fn) :
    false = Tryz.pinned.checked.prog.looks [] ∧ ∀ (j : Nat) t, fn.params[j]? = some t → Tryz.pinned.checked.prog.wantsStandIn t = false := by
  obtain rfl : f = 3 := Option.some.inj ((show Tryz.prog.funcNamed "scripttokens/laws.FnTemplate" = some 3 by kernel_rfl).symm.trans hf) |>.symm
  obtain rfl : fn = Tryz.f3 := (Option.some.inj (Tryz.func3.symm.trans hfn)).symm
  refine ⟨by kernel_rfl, fun j t ht => ?_⟩
  rw [Tryz.params3] at ht
  obtain rfl : t = 9 := by simpa using Array.mem_of_getElem? ht
  exact (show Tryz.prog.wantsStandIn 9 = false by kernel_rfl)

theorem card : Rows.FnTemplateCardSaid :=
  Claim7.holds_tied_plain_at .later [] _ _ _ _ said (fun _ h => by cases h) (by kernel_rfl) (fun _ h => by cases h) fnTemplate_row_tie rfl ⟨rfl, rfl⟩ (by kernel_rfl) rfl plain (by kernel_rfl)
#print axioms card
end Go.Proofs.YthknielnhmoobaaGreatDoor.fnTemplate
