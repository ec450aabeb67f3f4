/- 'laws.FnLazy': for every depth, every slice of bytes and every slice of texts the law answers true, and they read afterwards as before. The row of the law, and its card tied to the program's text. Condition: the listed package-level variables start as the program's text lays them (the card ties them). -/
import Derived.Test.YtdnlfdppjfjncaaGreatDoorCards
import Derived.Test.YtdnlfdppjfjncaaGreatDoorTie
import Derived.SevenTiedAt
import Derived.Test.YtdnlfdppjfjncaaGreatDoorSt10
import Derived.Test.YtdnlfdppjfjncaaGreatDoorLz4
namespace Go.Proofs.YtdnlfdppjfjncaaGreatDoor
open Go Go.ChangeShapes Go.WideShapes Go.ChangeAt Go.RowKit
open Go.ChangeMaps (open_string shut_string)

set_option maxRecDepth 100000 in
theorem lazy_lifted (os : Os) (started : os.Started) (H : Type) (enc : TypeId × Value → H) :
    ReturnsInHanded {} Tryz.checked os 7 .any (fun w args => (Rows.fnLazySpec.pre enc Tryz.prog Tryz.f7 [] false w args ∧ laidMetH Tryz.prog laid8 w) ∧ sizedMet enc Tryz.prog Tryz.f7 (OpenSpec.ofChange Rows.fnLazySpec) false w args)
      (Rows.fnLazySpec.post enc Tryz.prog Tryz.f7 false true false false) := by
  refine returnsInHanded_of_change_and (C := Tryz.checked) (X := fun w _ => laidMetH Tryz.prog laid8 w) (fun _ _ _ hh h => h.of_heap hh) knob started (by kernel_rfl) Tryz.func7
    (ChangeSpec.witness_shaped (enc := enc) (C := Tryz.checked) (os := os) (X := fun w _ => laidMetH Tryz.prog laid8 w) false (laidW os) #[.int .u8 0, .slice none 0 0, .slice none 0 0] 8 rfl (World.shaped_of_RefB (by kernel_rfl) (by kernel_rfl)) (by kernel_rfl) (by kernel_rfl) (by kernel_rfl) (laidW_met os _)) ?_
  intro W base args ds gs before hval0 hW _ _ _ _
  have hval : ∀ (j : Nat) t v, Tryz.f7.params[j]? = some t → args[j]? = some v → Value.okWide Tryz.prog W .any base t v := hval0
  have hW' := hW
  obtain ⟨p, q, hA0, hV, rfl, hfz, hnd⟩ := hW
  have hA : DataW.TrodAll enc Tryz.prog W 0 (fun _ => true) true Tryz.f7.params.toList args.toList ds p := hA0
  rw [Tryz.params7] at hA hval
  obtain ⟨v0, vs0, d0, ds0, p0, q0, hargs, rfl, rfl, h0, r0⟩ := trodAll_cons hA
  obtain ⟨v1, vs1, d1, ds1, p1, q1, rfl, rfl, rfl, h1, r1⟩ := trodAll_cons r0
  obtain ⟨v2, vs2, d2, ds2, p2, q2, rfl, rfl, rfl, h2, r2⟩ := trodAll_cons r1
  obtain ⟨rfl, rfl, rfl⟩ := trodAll_nil r2
  obtain rfl : args = #[v0, v1, v2] := by cases args; simp_all
  obtain ⟨rfl, rfl⟩ := trodVars_none hV
  obtain ⟨a0, rfl, rfl, rfl, w0⟩ := open_int Tryz.underlying5 (hval 0 5 v0 rfl rfl) h0
  have b0 := bounds_u8 w0
  obtain ⟨m0, rfl⟩ := Int.eq_ofNat_of_zero_le b0.1
  clear hA0 hval0
  simp only [List.append_nil, List.nil_append] at hW'
  have hlt : ∀ x ∈ p1, x.block < W.heap.size := fun x hx => hW'.lt x (by simp [hx])
  have hlt2 : ∀ x ∈ p2, x.block < W.heap.size := fun x hx => hW'.lt x (by simp [hx])
  have h1k := h1
  obtain ⟨fuel, hf⟩ := h1
  have hback : ∀ W' : World, Below W.heap.size W W' → DataW.Trod enc Tryz.prog W' 0 (fun b => decide (b < W.heap.size)) true 35 v1 d1 p1 :=
    fun W' hn => Below.trod (by kernel_rfl) (by kernel_rfl) (of_decide_eq_true (by kernel_rfl)) h1k hn hlt
  obtain ⟨a1, len, cap, rfl⟩ := okWide_slice Tryz.underlying35 (hval 1 35 v1 rfl rfl)
  obtain ⟨ls, hS⟩ : ∃ ls, BytsAt W (.slice a1 len cap) ls := by
    rcases open_ints Tryz.underlying35 Tryz.underlying5 (by kernel_rfl) hf with ⟨hcs, hx⟩ | ⟨a, len', cap', zs, hcs, _, hl, hm, hz, hx, hcell, hwz⟩
    · simp [Value.cells] at hcs
      obtain ⟨rfl, rfl, rfl⟩ := hcs
      exact ⟨[], Or.inl ⟨rfl, rfl⟩⟩
    · simp [Value.cells] at hcs
      obtain ⟨rfl, rfl, rfl⟩ := hcs
      simp only [if_true] at hz
      have hln : ((zs.take len).map (fun n => UInt8.ofNat n.toNat)).length = len := by rw [List.length_map, List.length_take]; omega
      refine ⟨(zs.take len).map (fun n => UInt8.ofNat n.toNat), Or.inr ⟨a, cap, by rw [hln], fun i x hx => ?_⟩⟩
      have hi : i < len := by
        have := (List.getElem?_eq_some_iff.1 hx).1
        rwa [hln] at this
      rw [hcell i (by omega)]
      rw [List.getElem?_map, List.getElem?_take_of_lt hi] at hx
      obtain ⟨z, hz1, rfl⟩ := Option.map_eq_some_iff.1 hx
      rw [List.getD_eq_getElem?_getD, hz1]
      have hb := bounds_u8 (hwz z (List.mem_of_getElem? hz1))
      have : ((UInt8.ofNat z.toNat).toNat : Int) = z := by
        rw [UInt8.toNat_ofNat']
        omega
      rw [this]
      rfl
  have h2k := h2
  obtain ⟨fuel2, hf2⟩ := h2
  have hback2 : ∀ W' : World, Below W.heap.size W W' → DataW.Trod enc Tryz.prog W' 0 (fun b => decide (b < W.heap.size)) true 36 v2 d2 p2 :=
    fun W' hn => Below.trod (by kernel_rfl) (by kernel_rfl) (of_decide_eq_true (by kernel_rfl)) h2k hn hlt2
  obtain ⟨a2, len2, cap2, rfl⟩ := okWide_slice Tryz.underlying36 (hval 2 36 v2 rfl rfl)
  obtain ⟨ts, hT⟩ : ∃ ts, StrsAt W (.slice a2 len2 cap2) ts := by
    rcases open_strings Tryz.underlying36 Tryz.underlying9 (by kernel_rfl) hf2 with ⟨hcs, hx⟩ | ⟨a, len', cap', ss, hcs, _, hl, hm, hz, hx, hcell, hwz⟩
    · simp [Value.cells] at hcs
      obtain ⟨rfl, rfl, rfl⟩ := hcs
      exact ⟨[], Or.inl ⟨rfl, rfl⟩⟩
    · simp [Value.cells] at hcs
      obtain ⟨rfl, rfl, rfl⟩ := hcs
      simp only [if_true] at hz
      have hln : (ss.take len2).length = len2 := by rw [List.length_take]; omega
      refine ⟨ss.take len2, Or.inr ⟨a, cap2, by rw [hln], fun i x hx => ?_⟩⟩
      have hi : i < len2 := by
        have := (List.getElem?_eq_some_iff.1 hx).1
        rwa [hln] at this
      rw [hcell i (by omega)]
      rw [List.getElem?_take_of_lt hi] at hx
      rw [List.getD_eq_getElem?_getD, hx]
      rfl
  refine (law_lazyN m0 (by omega) _ _ ls ts W hS hT).mono fun e W' ⟨he, hg⟩ => ?_
  subst he
  refine ⟨_, rfl, _, _, _, [], [] ++ (p1 ++ (p2 ++ [])), [], hW', ?_, ?_, ?_, hg.kept (fun _ x => x) _, fun h => by cases h⟩
  · exact trodAll_cons_mk (shut_bool Tryz.underlying4 _) trodAll_mk0
  · exact trodAll_cons_mk (shut_int Tryz.underlying5 w0) (trodAll_cons_mk (hback W' (hg.below (Nat.le_refl _) (fun _ _ x => x))) (trodAll_cons_mk (hback2 W' (hg.below (Nat.le_refl _) (fun _ _ x => x))) trodAll_mk0))
  · rfl

set_option maxRecDepth 100000 in
set_option maxHeartbeats 4000000 in
theorem lazy_closed : joinedFacts Tryz.pinned.checked.prog 7 Tryz.f7 Rows.fnLazySpec Rows.fnLazyRow = true := by
  unfold joinedFacts
  simp only [Bool.and_eq_true]
  repeat' (refine And.intro ?_ ?_)
  all_goals (as_aux_lemma => kernel_rfl)

theorem lazy_row : Rows.FnLazySaid :=
  OpenClaim.holds_of_wide 7 Tryz.f7 rfl rfl rfl rfl rfl rfl rfl ⟨rfl, rfl, rfl, rfl, rfl⟩ rfl rfl rfl rfl rfl (by as_aux_lemma => kernel_rfl) Tryz.func7 lazy_closed
    (of_decide_eq_true (by as_aux_lemma => kernel_rfl)) (by unfold Func.isWrapper; first | (rw [if_pos (by decide +kernel)]; kernel_rfl) | (rw [if_neg (by decide +kernel)]; exact ⟨rfl, rfl⟩))
    (fun os started H enc _ => lazy_lifted os started H enc)

/-- The card. -/
theorem lazy_holds : Rows.FnLazyCardSaid :=
  Claim7.holds_tied_plain_at .later [] [.data, .data, .data, .data, .sentinel, .sentinel, .data, .pinned] true Rows.fnLazyCard.stood.harness true
    lazy_row (fun _ h => by cases h) (by as_aux_lemma => kernel_rfl) (fun _ h => by cases h) fnLazy_row_tie rfl ⟨rfl, rfl⟩ (by as_aux_lemma => kernel_rfl) rfl
    (fun f fn hf hfn => by
      obtain rfl : f = 7 := Option.some.inj ((show Tryz.prog.funcNamed "pub-paratext/laws.FnLazy" = some 7 by as_aux_lemma => kernel_rfl).symm.trans hf) |>.symm
      obtain rfl : fn = Tryz.f7 := (Option.some.inj (Tryz.func7.symm.trans hfn)).symm
      exact ⟨by as_aux_lemma => kernel_rfl, fun j t ht => by
        rw [Tryz.params7] at ht
        have hm : t ∈ [5, 35, 36] := by simpa using Array.mem_of_getElem? ht
        have hall : ([5, 35, 36].all fun u => !Tryz.prog.wantsStandIn u) = true := by as_aux_lemma => kernel_rfl
        exact (show Tryz.prog.wantsStandIn t = false by simpa using List.all_eq_true.1 hall t hm)⟩)
    (by as_aux_lemma => kernel_rfl)
#print axioms lazy_holds
end Go.Proofs.YtdnlfdppjfjncaaGreatDoor
