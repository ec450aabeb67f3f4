/- 'laws.FnLiteralLines': for every slice of texts the law answers true, and it reads afterwards as before. The row of the law, and its card tied to the program's text. Condition: the listed package-level variables start as the program's text lays them (the card ties them). -/
import Derived.Test.YtdnlfdppjfjncaaGreatDoorCards
import Derived.Test.YtdnlfdppjfjncaaGreatDoorTie
import Derived.SevenTiedAt
import Derived.Test.YtdnlfdppjfjncaaGreatDoorLi11
namespace Go.Proofs.YtdnlfdppjfjncaaGreatDoor
open Go Go.ChangeShapes Go.WideShapes Go.ChangeAt Go.RowKit
open Go.ChangeMaps (open_string shut_string)

set_option maxRecDepth 100000 in
theorem lines_lifted (os : Os) (started : os.Started) (H : Type) (enc : TypeId × Value → H) :
    ReturnsInHanded {} Tryz.checked os 8 .any (fun w args => (Rows.fnLiteralLinesSpec.pre enc Tryz.prog Tryz.f8 [] false w args ∧ laidMetH Tryz.prog laid8 w) ∧ sizedMet enc Tryz.prog Tryz.f8 (OpenSpec.ofChange Rows.fnLiteralLinesSpec) false w args)
      (Rows.fnLiteralLinesSpec.post enc Tryz.prog Tryz.f8 false true false false) := by
  refine returnsInHanded_of_change_and (C := Tryz.checked) (X := fun w _ => laidMetH Tryz.prog laid8 w) (fun _ _ _ hh h => h.of_heap hh) knob started (by kernel_rfl) Tryz.func8
    (ChangeSpec.witness_shaped (enc := enc) (C := Tryz.checked) (os := os) (X := fun w _ => laidMetH Tryz.prog laid8 w) false (laidW os) #[.slice none 0 0] 8 rfl (World.shaped_of_RefB (by kernel_rfl) (by kernel_rfl)) (by kernel_rfl) (by kernel_rfl) (by kernel_rfl) (laidW_met os _)) ?_
  intro W base args ds gs before hval0 hW _ _ _ _
  have hval : ∀ (j : Nat) t v, Tryz.f8.params[j]? = some t → args[j]? = some v → Value.okWide Tryz.prog W .any base t v := hval0
  have hW' := hW
  obtain ⟨p, q, hA0, hV, rfl, hfz, hnd⟩ := hW
  have hA : DataW.TrodAll enc Tryz.prog W 0 (fun _ => true) true Tryz.f8.params.toList args.toList ds p := hA0
  rw [Tryz.params8] at hA hval
  obtain ⟨v0, vs0, d0, ds0, p0, q0, hargs, rfl, rfl, h0, r0⟩ := trodAll_cons hA
  obtain ⟨rfl, rfl, rfl⟩ := trodAll_nil r0
  obtain rfl : args = #[v0] := by cases args; simp_all
  obtain ⟨rfl, rfl⟩ := trodVars_none hV
  clear hA0 hval0
  simp only [List.append_nil] at hW'
  have hlt : ∀ x ∈ p0, x.block < W.heap.size := fun x hx => hW'.lt x (by simpa using hx)
  have h0k := h0
  obtain ⟨fuel, hf⟩ := h0
  have hback : ∀ W' : World, Below W.heap.size W W' → DataW.Trod enc Tryz.prog W' 0 (fun b => decide (b < W.heap.size)) true 36 v0 d0 p0 :=
    fun W' hn => Below.trod (by kernel_rfl) (by kernel_rfl) (of_decide_eq_true (by kernel_rfl)) h0k hn hlt
  obtain ⟨a0, len, cap, rfl⟩ := okWide_slice Tryz.underlying36 (hval 0 36 v0 rfl rfl)
  obtain ⟨ls, hS⟩ : ∃ ls, StrsAt W (.slice a0 len cap) ls := by
    rcases open_strings Tryz.underlying36 Tryz.underlying9 (by kernel_rfl) hf with ⟨hcs, hx⟩ | ⟨a, len', cap', ss, hcs, _, hl, hm, hz, hx, hcell, hwz⟩
    · simp [Value.cells] at hcs
      obtain ⟨rfl, rfl, rfl⟩ := hcs
      exact ⟨[], Or.inl ⟨rfl, rfl⟩⟩
    · simp [Value.cells] at hcs
      obtain ⟨rfl, rfl, rfl⟩ := hcs
      simp only [if_true] at hz
      have hln : (ss.take len).length = len := by rw [List.length_take]; omega
      refine ⟨ss.take len, Or.inr ⟨a, cap, by rw [hln], fun i x hx => ?_⟩⟩
      have hi : i < len := by
        have := (List.getElem?_eq_some_iff.1 hx).1
        rwa [hln] at this
      rw [hcell i (by omega)]
      rw [List.getElem?_take_of_lt hi] at hx
      rw [List.getD_eq_getElem?_getD, hx]
      rfl
  refine (law_lines _ ls W hS).mono fun e W' ⟨he, hg⟩ => ?_
  subst he
  refine ⟨_, rfl, _, _, _, [], p0 ++ [], [], hW', ?_, ?_, ?_, hg.kept (fun _ x => x) _, fun h => by cases h⟩
  · exact trodAll_cons_mk (shut_bool Tryz.underlying4 _) trodAll_mk0
  · exact trodAll_cons_mk (hback W' (hg.below (Nat.le_refl _) (fun _ _ x => x))) trodAll_mk0
  · rfl

set_option maxRecDepth 100000 in
set_option maxHeartbeats 4000000 in
theorem lines_closed : joinedFacts Tryz.pinned.checked.prog 8 Tryz.f8 Rows.fnLiteralLinesSpec Rows.fnLiteralLinesRow = true := by
  unfold joinedFacts
  simp only [Bool.and_eq_true]
  repeat' (refine And.intro ?_ ?_)
  all_goals (as_aux_lemma => kernel_rfl)

theorem lines_row : Rows.FnLiteralLinesSaid :=
  OpenClaim.holds_of_wide 8 Tryz.f8 rfl rfl rfl rfl rfl rfl rfl ⟨rfl, rfl, rfl, rfl, rfl⟩ rfl rfl rfl rfl rfl (by as_aux_lemma => kernel_rfl) Tryz.func8 lines_closed
    (of_decide_eq_true (by as_aux_lemma => kernel_rfl)) (by unfold Func.isWrapper; first | (rw [if_pos (by decide +kernel)]; kernel_rfl) | (rw [if_neg (by decide +kernel)]; exact ⟨rfl, rfl⟩))
    (fun os started H enc _ => lines_lifted os started H enc)

/-- The card. -/
theorem lines_holds : Rows.FnLiteralLinesCardSaid :=
  Claim7.holds_tied_plain_at .later [] [.data, .data, .data, .data, .sentinel, .sentinel, .data, .pinned] true Rows.fnLiteralLinesCard.stood.harness true
    lines_row (fun _ h => by cases h) (by as_aux_lemma => kernel_rfl) (fun _ h => by cases h) fnLiteralLines_row_tie rfl ⟨rfl, rfl⟩ (by as_aux_lemma => kernel_rfl) rfl
    (fun f fn hf hfn => by
      obtain rfl : f = 8 := Option.some.inj ((show Tryz.prog.funcNamed "pub-paratext/laws.FnLiteralLines" = some 8 by as_aux_lemma => kernel_rfl).symm.trans hf) |>.symm
      obtain rfl : fn = Tryz.f8 := (Option.some.inj (Tryz.func8.symm.trans hfn)).symm
      exact ⟨by as_aux_lemma => kernel_rfl, fun j t ht => by
        rw [Tryz.params8] at ht
        have hm : t ∈ [36] := by simpa using Array.mem_of_getElem? ht
        have hall : ([36].all fun u => !Tryz.prog.wantsStandIn u) = true := by as_aux_lemma => kernel_rfl
        exact (show Tryz.prog.wantsStandIn t = false by simpa using List.all_eq_true.1 hall t hm)⟩)
    (by as_aux_lemma => kernel_rfl)
#print axioms lines_holds
end Go.Proofs.YtdnlfdppjfjncaaGreatDoor
