/- For every text the law FnKeyword answers true: a text is in the map Keywords just if it is in the list of reserved words. Conditions: none beyond the row's own (the two listed variables read as the program's text lays them; the card ties them). -/
import Derived.Test.YtolgapijpejpoaaDoorCards
import Derived.Test.YtolgapijpejpoaaDoorTie
import Derived.Test.YtolgapijpejpoaaDoorKw
import Derived.ProofKit
import Derived.LaidMore
import Derived.OpenShut
import Derived.Stop.Joined
import Derived.SliceStrings
import Derived.SevenTiedAt
namespace Go.Proofs.YtolgapijpejpoaaDoor.fnKeyword
open Go.ChangeShapes Go.WideShapes Go.ChangeAt Go.RowKit
open Go.WideMaps Go.WideElems

theorem own : ownKnob Tryd.prog.godebug = none := by kernel_rfl
theorem gWords : Tryd.prog.globalNamed "scripttokens/spec.words" = some 0 := by kernel_rfl
theorem gKeys : Tryd.prog.globalNamed "scripttokens/pub/esbuild/inner/js_lexer.Keywords" = some 1 := by kernel_rfl
theorem tWords : (Tryd.prog.globals[0]?).map (·.type) = some 32 := by kernel_rfl
theorem tKeys : (Tryd.prog.globals[1]?).map (·.type) = some 47 := by kernel_rfl
theorem c9 : Tryd.prog.cellsOf 9 = 1 := by kernel_rfl
theorem law : KeyLaw Tryd.prog 9 := string_law Tryd.underlying9

/-- The door's own heap meets the condition: three closed facts. -/
theorem door_met (os : Os) (args : Array Value) : laidMetH Tryd.prog Rows.fnKeywordRow.laid ((World.doorLaid Tryd.prog 224 os).forCall (fun _ _ => 0) ⟨#[], args, []⟩).memory :=
  laidMetH_of_parts3 (fuel := 8) (laidMet_of_run' 8 (by kernel_rfl) (by kernel_rfl)) (by kernel_rfl) (by kernel_rfl)

/-- The keys of the map, the bytes of each. -/
def keysOf {H : Type} : DataW H → List (List UInt8)
  | .map es => es.map fun p => match p.1 with | .string l => l | _ => []
  | _ => []
/-- The strings of a slice. -/
def wordsOf {H : Type} : DataW H → List (List UInt8)
  | .slice es _ => es.map fun d => match d with | .lit (.string l) => l | _ => []
  | _ => []

theorem of_two {D0 D1 : DataW Unit} {W : World} (h : laidMet Tryd.prog [("scripttokens/spec.words", D0), ("scripttokens/pub/esbuild/inner/js_lexer.Keywords", D1)] W) (h0 : D0 ≠ .nil) (h1 : D1 ≠ .nil) (hne : D0 ≠ .slice [] []) :
    ∃ (b o len cap : Nat) (ss : List ByteArray) (bm : Nat), W.cell? ⟨0, 0, none⟩ = some (.slice (some ⟨b, o, none⟩) len cap) ∧ len ≤ cap ∧ ss.length = cap ∧ D0 = .slice (strs (ss.take len)) (strs (ss.drop len)) ∧
      (∀ i, i < cap → W.cell? ⟨b, o + i, none⟩ = some (.string (ss.getD i ByteArray.empty))) ∧
      W.cell? ⟨1, 0, none⟩ = some (.map (some bm)) ∧
      ∀ s : ByteArray, s.size ≤ maxLen → ∃ n : Int, (Instr.lookup 47 (.map (some bm)) (.string s) false).run Tryd.prog W = .ok (.int .u8 n) W ∧ D1.atKey (.string s.data.toList) (.lit (.int .u8 0)) = .lit (.int .u8 n) := by
  have zero : (zeroValue 46).run Tryd.prog W = .ok (.int .u8 0) W := by kernel_rfl
  obtain ⟨ps, ⟨g0, t0, cs0, f0, p0, q0, hg0, ht0, hv0, hd0, ⟨g1, t1, cs1, f1, p1, q1, hg1, ht1, hv1, hd1, _, _⟩, _⟩, _, _⟩ := h
  obtain rfl := Option.some.inj (gWords.symm.trans hg0)
  obtain rfl := Option.some.inj (gKeys.symm.trans hg1)
  obtain rfl := Option.some.inj (tWords.symm.trans ht0)
  obtain rfl := Option.some.inj (tKeys.symm.trans ht1)
  rcases open_strings Tryd.underlying32 Tryd.underlying9 c9 hd0 with ⟨hcs, hx⟩ | ⟨a, len', cap', ss, hcs, _, hl, hm, hz, hx, hcell, hws⟩
  · exact absurd (congrArg Prod.fst hx) h0
  rcases Go.WideElems.open_map Tryd.underlying47 hd1 with ⟨_, hx1⟩ | ⟨bm, es, clock, m, rfl, hcs1, hb, _, F, hx1⟩
  · exact absurd (congrArg Prod.fst hx1) h1
  simp only [Prod.mk.injEq] at hx hx1
  simp only [if_true] at hz
  obtain ⟨hx, _⟩ := hx
  obtain ⟨hx1, _⟩ := hx1
  have hpos : 0 < ss.length := by
    rcases Nat.eq_zero_or_pos ss.length with h | h
    · have : ss = [] := List.length_eq_zero_iff.1 h
      subst this
      exact absurd hx (by simpa [strs] using hne)
    · exact h
  have ha : a.spot = none := by
    have := hcell 0 hpos
    simp only [Addr.add, if_true] at this
    unfold World.cell? at this
    split at this
    · split at this
      · cases this
      · rename_i h; simpa using h
    · cases this
  have hadd : ∀ i, a.add i = ⟨a.block, a.off + i, none⟩ := by
    intro i
    unfold Addr.add
    split
    · rename_i h; subst h; cases a; simp at ha; subst ha; rfl
    · rfl
  have haa : a = ⟨a.block, a.off, none⟩ := by cases a; simp at ha; subst ha; rfl
  have e0 : W.cell? ⟨0, 0, none⟩ = some (.slice (some ⟨a.block, a.off, none⟩) len' cap') := by
    have := World.var?_cell hg0 hv0 0
    rw [Array.eq_one_of_toList hcs] at this
    rw [← haa]
    simpa using this
  have e1 : W.cell? ⟨1, 0, none⟩ = some (.map (some bm)) := by
    have := World.var?_cell hg1 hv1 0
    rw [Array.eq_one_of_toList hcs1] at this
    simpa using this
  refine ⟨a.block, a.off, len', cap', ss, bm, e0, hl, hz, hx, fun i hi => ?_, e1, fun s hs => ?_⟩
  · rw [← hadd]; exact hcell i (by omega)
  · rcases Go.WideElems.fit_lookup (w := W) law Tryd.underlying47 zero hb F (keyOf_string_mk (s := s) Tryd.underlying9 hs) with ⟨hrun, hat⟩ | ⟨v, y, hrun, hRv, hat, _⟩
    · exact ⟨0, hrun, by rw [hx1]; exact hat _⟩
    · obtain ⟨r, rfl, rfl, _⟩ := elemAt_int Tryd.underlying46 hRv
      exact ⟨r, hrun, by rw [hx1]; exact hat _⟩

/-- The bytes of the words of the list. -/
def wordBytes : List (List UInt8) := wordsOf (Rows.laid_scripttokens_spec_words (H := Unit))
theorem strs_words {ss rs : List ByteArray} (h : (Rows.laid_scripttokens_spec_words : DataW Unit) = .slice (strs ss) (strs rs)) : ss.map (fun s => s.data.toList) = wordBytes := by
  unfold wordBytes
  rw [h]
  simp only [wordsOf, strs, List.map_map]
  exact List.map_congr_left (fun _ _ => rfl)
theorem words_len : wordBytes.length = 36 := by decide +kernel
theorem keys_words : keysOf (Rows.laid_scripttokens_pub_esbuild_inner_js_lexer_Keywords (H := Unit)) = wordBytes := by decide +kernel
/-- Each value of the map is not 0. -/
def nonZero {H : Type} : DataW H → Bool
  | .map es => es.all fun p => match p.1, p.2 with | .string _, .lit (.int _ n) => n != 0 | _, _ => false
  | _ => false
theorem keys_nonZero : nonZero (Rows.laid_scripttokens_pub_esbuild_inner_js_lexer_Keywords (H := Unit)) = true := by decide +kernel

theorem at_key {D : DataW Unit} {l : List UInt8} {n : Int} (hz : nonZero D = true) (h : D.atKey (.string l) (.lit (.int .u8 0)) = .lit (.int .u8 n)) : (n != 0) = (keysOf D).any fun x => x == l := by
  cases D with
  | map es =>
    simp only [nonZero, keysOf, DataW.atKey, List.any_map] at *
    induction es with
    | nil => simp at h ⊢; exact h.symm
    | cons p es ih =>
      simp only [List.all_cons, Bool.and_eq_true] at hz
      obtain ⟨hz0, hz1⟩ := hz
      simp only [List.find?_cons] at h
      simp only [List.any_cons]
      obtain ⟨k, d⟩ := p
      cases k with
      | string kb =>
        by_cases e : kb = l
        · subst e
          simp only [Lit.sameKey, beq_self_eq_true] at h
          subst h
          simp only [Function.comp, beq_self_eq_true, Bool.true_or]
          exact hz0
        · have e2 : (kb == l) = false := by simpa using e
          simp only [Lit.sameKey, e2] at h
          simp only [Function.comp, e2, Bool.false_or]
          exact ih hz1 h
      | _ => simp at hz0
  | _ => simp [nonZero] at hz

theorem any_eq (ss : List ByteArray) (s : ByteArray) : (ss.any fun x => x.toList == s.toList) = (ss.map (fun x => x.data.toList)).any fun x => x == s.data.toList := by
  rw [List.any_map, ByteArray.toList_eq]
  congr 1
  funext x
  simp only [Function.comp, ByteArray.toList_eq]

set_option maxRecDepth 100000 in
theorem lifted (os : Os) (started : os.Started) (H : Type) (enc : TypeId × Value → H) :
    ReturnsInHanded {} Tryd.checked os 3 .any (fun w args => (Rows.fnKeywordSpec.pre enc Tryd.prog Tryd.f3 [] false w args ∧ laidMetH Tryd.prog Rows.fnKeywordRow.laid w) ∧ sizedMet enc Tryd.prog Tryd.f3 (OpenSpec.ofChange Rows.fnKeywordSpec) false w args)
      (Rows.fnKeywordSpec.post enc Tryd.prog Tryd.f3 false true false false) := by
  refine returnsInHanded_of_change_and (C := Tryd.checked) (X := fun w _ => laidMetH Tryd.prog Rows.fnKeywordRow.laid w) (fun _ _ _ hh h => h.of_heap hh) own started (by kernel_rfl) Tryd.func3
    (ChangeSpec.witness_shaped (enc := enc) (C := Tryd.checked) (os := os) (X := fun w _ => laidMetH Tryd.prog Rows.fnKeywordRow.laid w) false (World.doorLaid Tryd.prog 224 os) #[.string ByteArray.empty] 8 rfl (World.shaped_of_RefB (by kernel_rfl) (by kernel_rfl)) (by kernel_rfl) (by kernel_rfl) (by kernel_rfl) (door_met os _)) ?_
  intro W base args ds gs before hval0 hW _ _ hL _
  have hval : ∀ (j : Nat) t v, Tryd.f3.params[j]? = some t → args[j]? = some v → Value.okWide Tryd.prog W .any base t v := hval0
  have hW' := hW
  obtain ⟨p, q, hA0, hV, rfl, hfz, hnd⟩ := hW
  have hA : DataW.TrodAll enc Tryd.prog W 0 (fun _ => true) true Tryd.f3.params.toList args.toList ds p := hA0
  rw [Tryd.params3] at hA hval
  obtain ⟨v0, d0, rfl, rfl, h0⟩ := trodAll_one hA
  obtain ⟨rfl, rfl⟩ := trodVars_none hV
  obtain ⟨s, rfl, rfl, rfl, hs⟩ := ChangeMaps.open_string Tryd.underlying9 (hval 0 9 v0 rfl rfl) h0
  clear hA0 hval0
  simp only [List.append_nil] at hW'
  have hL2 : laidMet Tryd.prog [("scripttokens/spec.words", Rows.laid_scripttokens_spec_words), ("scripttokens/pub/esbuild/inner/js_lexer.Keywords", Rows.laid_scripttokens_pub_esbuild_inner_js_lexer_Keywords)] W := by
    have hL1 : laidMetH Tryd.prog Rows.fnKeywordRow.laid W := hL
    rw [MakeChecks.laidMetH_plain _ _ _ (by kernel_rfl)] at hL1
    exact hL1
  obtain ⟨b, o, len, cap, ss, bm, c0, hlc, hss, hD0, hcell, c1, hlook⟩ := of_two hL2 (fun e => by unfold Rows.laid_scripttokens_spec_words at e; cases e) (fun e => by unfold Rows.laid_scripttokens_pub_esbuild_inner_js_lexer_Keywords at e; cases e)
    (fun e => by unfold Rows.laid_scripttokens_spec_words at e; cases e)
  have hw := strs_words hD0
  have hdrop : ss.drop len = [] := by
    have : (strs (ss.drop len) : List (DataW Unit)) = [] := by
      unfold Rows.laid_scripttokens_spec_words at hD0
      injection hD0 with _ h2
      exact h2.symm
    simpa [strs] using this
  have hle : ss.length ≤ len := by simpa using hdrop
  have hlen : len = cap := by omega
  subst hlen
  rw [List.take_of_length_le (by omega)] at hw
  have h36 : len = 36 := by rw [← hss, ← List.length_map (f := fun s : ByteArray => s.data.toList), hw, words_len]
  subst h36
  obtain ⟨n, hrun, hat⟩ := hlook s hs
  have hsame : (n != 0) = (ss.any fun x => x.toList == s.toList) := by
    rw [any_eq, hw, ← keys_words]
    exact at_key keys_nonZero hat
  refine (fnKeyword_any s b o ss bm n W hss c0 hcell c1 hrun hsame).mono fun e W' ⟨he, hw⟩ => ?_
  subst he; subst hw
  exact ⟨_, rfl, post_of_same (pa := []) (pv := []) hW' (fun _ _ _ => trodAll_mk1 (shut_bool Tryd.underlying4 _)) (fun sp _ => trodAll_mk1 (ChangeMaps.shut_string Tryd.underlying9 hs)) (fun _ _ => rfl) rfl (World.keptBut_refl _ _) (fun _ => rfl) (ok_one (by kernel_rfl) rfl (okWide_bool_mk Tryd.underlying4 _))⟩

theorem said : Rows.FnKeywordSaid :=
  OpenClaim.holds_of_wide 3 Tryd.f3 rfl rfl rfl rfl rfl rfl rfl ⟨rfl, rfl, rfl, rfl, rfl⟩ rfl rfl rfl rfl rfl (by kernel_rfl) Tryd.func3 (by kernel_rfl)
    (of_decide_eq_true (by kernel_rfl)) (by unfold Func.isWrapper; first | (rw [if_pos (by decide +kernel)]; kernel_rfl) | (rw [if_neg (by decide +kernel)]; exact ⟨rfl, rfl⟩))
    (fun os started H enc _ => lifted os started H enc)

/-- No parameter wants a stand-in; the program's own looks: what the card asks. -/
theorem plain (f : FuncId) (fn : Func) (hf : Tryd.pinned.checked.prog.funcNamed "scripttokens/laws.FnKeyword" = some f) (hfn : Tryd.pinned.checked.prog.funcs[f]? = some fn) :
    true = Tryd.pinned.checked.prog.looks [] ∧ ∀ (j : Nat) t, fn.params[j]? = some t → Tryd.pinned.checked.prog.wantsStandIn t = false := by
  obtain rfl : f = 3 := Option.some.inj ((show Tryd.prog.funcNamed "scripttokens/laws.FnKeyword" = some 3 by kernel_rfl).symm.trans hf) |>.symm
  obtain rfl : fn = Tryd.f3 := (Option.some.inj (Tryd.func3.symm.trans hfn)).symm
  refine ⟨by kernel_rfl, fun j t ht => ?_⟩
  rw [Tryd.params3] at ht
  obtain rfl : t = 9 := by simpa using Array.mem_of_getElem? ht
  exact (show Tryd.prog.wantsStandIn 9 = false by kernel_rfl)

theorem card : Rows.FnKeywordCardSaid :=
  Claim7.holds_tied_plain_at .later [] _ _ _ _ said (fun _ h => by cases h) (by kernel_rfl) (fun _ h => by cases h) fnKeyword_row_tie rfl ⟨rfl, rfl⟩ (by kernel_rfl) rfl plain (by kernel_rfl)
#print axioms card
end Go.Proofs.YtolgapijpejpoaaDoor.fnKeyword
