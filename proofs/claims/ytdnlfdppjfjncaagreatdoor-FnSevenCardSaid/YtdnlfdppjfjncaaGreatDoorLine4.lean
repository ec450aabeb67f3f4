/- The functions that try to begin a block, where the line begins none: quotation, thematic break, HTML. -/
import Derived.Test.YtdnlfdppjfjncaaGreatDoorLine3
namespace Go.Proofs.YtdnlfdppjfjncaaGreatDoor
open Go Go.RowKit Go.Proofs

theorem bne_of {c : UInt8} {k : Int} (h : (c.toNat : Int) ≠ k) : ((c.toNat : Int) == k) = false := beq_eq_false_iff_ne.2 h

set_option maxHeartbeats 1000000 in
theorem newQuote_no (p : Value) (text : ByteArray) (i : Nat) (nl : Int) (w : World) (hi : i ≤ text.size) (hT : Txt text) (hc : ((at0 text (p3 text i)).toNat : Int) ≠ 62) :
    Calls Tryz.prog 95 #[p, LV i text nl] w fun e w' => e = .returned (.tuple #[LV i text nl, .bool false]) ∧ Same w w' := by
  go_enter Tryz.func95, Tryz.ntmps95
  go_wp2_with fail
  generalize hW : ((w.alloc _).alloc _ : World) = W
  have hm0 : Same w W := by subst hW; exact ((Mods.refl _ w).alloc _).alloc _
  have hs0 : W.heap.size = w.heap.size + 1 + 1 := by subst hW; simp
  have hb : LineAt W w.heap.size i text nl := by subst hW; exact (Blk.newAt _ _ rfl).alloc _
  have hr : LineAt W (w.heap.size + 1) 0 ⟨#[]⟩ 0 := by subst hW; exact Blk.newAt _ _ (by simp)
  clear hW
  refine (trimQuote_no text i nl W hi hT hc).mono ?_
  rintro e w1 ⟨rfl, hm1⟩
  have hk : Same w w1 := hm0.trans hm1
  have hb1 := Same.blk hm1 hb
  have hr1 := Same.blk hm1 hr
  obtain ⟨g0, g1, g2, g3, g4, gf0, gf1, gf2, gf3, gf4, gbl⟩ := LineAt.facts hb1
  obtain ⟨r0, r1, r2, r3, r4, rf0, rf1, rf2, rf3, rf4, rbl⟩ := LineAt.facts hr1
  clear hb hr hb1 hm1 hm0 hs0
  go_wp2
  exact bodyPost_ret (v := .tuple #[LV i text nl, .bool false]) (by simp [results, Tryz.results95, go_sem, r0, r1, r2, r3, r4, rbl]) rfl ⟨rfl, by
    exact hk.then ((put5 hr1 i text nl).1.alloc _) (by intro b hb; omega)⟩

set_option maxHeartbeats 1000000 in
theorem isHR_no (text : ByteArray) (i : Nat) (nl : Int) (w : World) (hi : i ≤ text.size) (hT : Txt text)
    (c1 : ((at0 text (p3 text i)).toNat : Int) ≠ 45) (c2 : ((at0 text (p3 text i)).toNat : Int) ≠ 95) (c3 : ((at0 text (p3 text i)).toNat : Int) ≠ 42) :
    Calls Tryz.prog 147 #[LV i text nl] w fun e w' => e = .returned (.bool false) ∧ Same w w' := by
  have hp := (p3_le hi).2
  have d1 := bne_of c1
  have d2 := bne_of c2
  have d3 := bne_of c3
  clear c1 c2 c3
  go_enter Tryz.func147, Tryz.ntmps147
  go_wp2_with fail
  generalize hW : ((w.alloc _).alloc _ : World) = W
  have hm0 : Same w W := by subst hW; exact ((Mods.refl _ w).alloc _).alloc _
  have hl : LineAt W (w.heap.size + 1) i text nl := by subst hW; exact Blk.newAt _ _ (by simp)
  clear hW
  refine (trimSpace_03 _ text i nl W hi hT hl).mono ?_
  rintro e w1 ⟨rfl, hm1, hl1⟩
  have hk : Same w w1 := hm0.then hm1 (by intro b hb; omega)
  clear hl hm0 hm1
  go_wp2_with fail
  refine (peek_any _ _ _ _ _ hT.size hl1).mono ?_
  rintro e w2 ⟨rfl, n, rfl⟩
  clear hl1
  go_wp2
  go_ret
  exact ⟨rfl, hk.drewN n⟩

set_option maxHeartbeats 1000000 in
theorem newHR_no (p : Value) (text : ByteArray) (i : Nat) (nl : Int) (w : World) (hi : i ≤ text.size) (hT : Txt text)
    (c1 : ((at0 text (p3 text i)).toNat : Int) ≠ 45) (c2 : ((at0 text (p3 text i)).toNat : Int) ≠ 95) (c3 : ((at0 text (p3 text i)).toNat : Int) ≠ 42) :
    Calls Tryz.prog 98 #[p, LV i text nl] w fun e w' => e = .returned (.tuple #[LV i text nl, .bool false]) ∧ Same w w' := by
  go_enter Tryz.func98, Tryz.ntmps98
  go_wp2_with fail
  generalize hW : ((w.alloc _).alloc _ : World) = W
  have hm0 : Same w W := by subst hW; exact ((Mods.refl _ w).alloc _).alloc _
  have hb : LineAt W w.heap.size i text nl := by subst hW; exact (Blk.newAt _ _ rfl).alloc _
  have hr : LineAt W (w.heap.size + 1) 0 ⟨#[]⟩ 0 := by subst hW; exact Blk.newAt _ _ (by simp)
  clear hW
  refine (isHR_no text i nl W hi hT c1 c2 c3).mono ?_
  rintro e w1 ⟨rfl, hm1⟩
  have hk : Same w w1 := hm0.trans hm1
  have hb1 := Same.blk hm1 hb
  have hr1 := Same.blk hm1 hr
  obtain ⟨g0, g1, g2, g3, g4, gf0, gf1, gf2, gf3, gf4, gbl⟩ := LineAt.facts hb1
  obtain ⟨r0, r1, r2, r3, r4, rf0, rf1, rf2, rf3, rf4, rbl⟩ := LineAt.facts hr1
  clear hb hr hb1 hm1 hm0 c1 c2 c3
  go_wp2
  exact bodyPost_ret (v := .tuple #[LV i text nl, .bool false]) (by simp [results, Tryz.results98, go_sem, r0, r1, r2, r3, r4]) rfl ⟨rfl, by
    exact hk.then ((put5 hr1 i text nl).1) (by intro b hb; omega)⟩

set_option maxRecDepth 100000 in
set_option maxHeartbeats 1000000 in
theorem startHTML_no (p : Value) (b : Nat) (text : ByteArray) (i : Nat) (nl : Int) (w : World) (hi : i ≤ text.size) (hT : Txt text) (hL : LineAt w b i text nl)
    (c1 : ((at0 text (p3 text i)).toNat : Int) ≠ 60) :
    Calls Tryz.prog 150 #[p, .pointer (some ⟨b, 0, none⟩)] w fun e w' => e = .returned (.bool false) ∧ Same w w' := by
  obtain ⟨h0, h1, h2, h3, h4, hf0, hf1, hf2, hf3, hf4, hbl⟩ := hL.facts
  have d1 := bne_of c1
  go_enter Tryz.func150, Tryz.ntmps150
  go_wp2
  go_step3
  go_wp2_with fail
  generalize hW : (w.alloc _ : World) = W
  have hm0 : Same w W := by subst hW; exact (Mods.refl _ w).alloc _
  have hl : LineAt W (w.heap.size) i text nl := by subst hW; exact Blk.newAt _ _ rfl
  clear hW h0 h1 h2 h3 h4 hf0 hf1 hf2 hf3 hf4 hbl hL
  refine (trimSpace_03 _ text i nl W hi hT hl).mono ?_
  rintro e w1 ⟨rfl, hm1, hl1⟩
  have hk : Same w w1 := hm0.then hm1 (by intro b hb; omega)
  clear hl hm0 hm1
  go_wp2_with fail
  refine (peek_any _ _ _ _ _ hT.size hl1).mono ?_
  rintro e w2 ⟨rfl, n, rfl⟩
  clear hl1
  go_wp2
  try rw [Exit.noGoto_ret]
  go_ret
  exact ⟨rfl, hk.drewN n⟩

set_option maxHeartbeats 1000000 in
theorem newHTML_no (p : Value) (text : ByteArray) (i : Nat) (nl : Int) (w : World) (hi : i ≤ text.size) (hT : Txt text)
    (c1 : ((at0 text (p3 text i)).toNat : Int) ≠ 60) :
    Calls Tryz.prog 100 #[p, LV i text nl] w fun e w' => e = .returned (.tuple #[LV i text nl, .bool false]) ∧ Same w w' := by
  go_enter Tryz.func100, Tryz.ntmps100
  go_wp2_with fail
  generalize hW : (((w.alloc _).alloc _).alloc _ : World) = W
  have hm0 : Same w W := by subst hW; exact (((Mods.refl _ w).alloc _).alloc _).alloc _
  have hb : LineAt W w.heap.size i text nl := by subst hW; exact ((Blk.newAt _ _ rfl).alloc _).alloc _
  have hr : LineAt W (w.heap.size + 1) 0 ⟨#[]⟩ 0 := by subst hW; exact (Blk.newAt _ _ (by simp)).alloc _
  have hl : LineAt W (w.heap.size + 1 + 1) i text nl := by subst hW; exact Blk.newAt _ _ (by simp)
  clear hW
  refine (startHTML_no p _ text i nl W hi hT hl c1).mono ?_
  rintro e w1 ⟨rfl, hm1⟩
  have hk : Same w w1 := hm0.trans hm1
  have hb1 := Same.blk hm1 hb
  have hr1 := Same.blk hm1 hr
  obtain ⟨g0, g1, g2, g3, g4, gf0, gf1, gf2, gf3, gf4, gbl⟩ := LineAt.facts hb1
  obtain ⟨r0, r1, r2, r3, r4, rf0, rf1, rf2, rf3, rf4, rbl⟩ := LineAt.facts hr1
  clear hb hr hb1 hm1 hm0 c1 hl
  go_wp2
  exact bodyPost_ret (v := .tuple #[LV i text nl, .bool false]) (by simp [results, Tryz.results100, go_sem, r0, r1, r2, r3, r4]) rfl ⟨rfl, by
    exact hk.then ((put5 hr1 i text nl).1) (by intro b hb; omega)⟩

set_option maxHeartbeats 1000000 in
theorem trimHeading_no (b : Nat) (q : Value) (text : ByteArray) (i : Nat) (nl : Int) (w : World) (hi : i ≤ text.size) (hT : Txt text) (hL : LineAt w b i text nl)
    (c1 : ((at0 text (p3 text i)).toNat : Int) ≠ 35) :
    Calls Tryz.prog 135 #[.pointer (some ⟨b, 0, none⟩), q] w fun e w' => e = .returned (.bool false) ∧ Same w w' := by
  have hp := (p3_le hi).2
  obtain ⟨h0, h1, h2, h3, h4, hf0, hf1, hf2, hf3, hf4, hbl⟩ := hL.facts
  go_enter Tryz.func135, Tryz.ntmps135
  go_wp2_with fail
  generalize hW : (w.alloc _ : World) = W
  have hm0 : Same w W := by subst hW; exact (Mods.refl _ w).alloc _
  have hl : LineAt W (w.heap.size) i text nl := by subst hW; exact Blk.newAt _ _ rfl
  clear hW h0 h1 h2 h3 h4 hf0 hf1 hf2 hf3 hf4 hbl hL
  refine (trimSpace_03 _ text i nl W hi hT hl).mono ?_
  rintro e w1 ⟨rfl, hm1, hl1⟩
  have hk : Same w w1 := hm0.then hm1 (by intro b hb; omega)
  clear hl hm0 hm1
  go_wp2_with fail
  refine (trim_noC _ _ _ _ _ _ hp hl1 c1).mono ?_
  rintro e w2 ⟨rfl, n, rfl⟩
  clear hl1
  go_wp2
  go_ret
  exact ⟨rfl, hk.drewN n⟩

set_option maxHeartbeats 1000000 in
theorem newATX_no (p : Value) (text : ByteArray) (i : Nat) (nl : Int) (w : World) (hi : i ≤ text.size) (hT : Txt text)
    (c1 : ((at0 text (p3 text i)).toNat : Int) ≠ 35) :
    Calls Tryz.prog 96 #[p, LV i text nl] w fun e w' => e = .returned (.tuple #[LV i text nl, .bool false]) ∧ Same w w' := by
  go_enter Tryz.func96, Tryz.ntmps96
  go_wp2_with fail
  generalize hW : ((((w.alloc _).alloc _).alloc _).alloc _ : World) = W
  have hm0 : Same w W := by subst hW; exact ((((Mods.refl _ w).alloc _).alloc _).alloc _).alloc _
  have hb : LineAt W w.heap.size i text nl := by subst hW; exact (((Blk.newAt _ _ rfl).alloc _).alloc _).alloc _
  have hr : LineAt W (w.heap.size + 1) 0 ⟨#[]⟩ 0 := by subst hW; exact ((Blk.newAt _ _ (by simp)).alloc _).alloc _
  have hl : LineAt W (w.heap.size + 1 + 1) i text nl := by subst hW; exact (Blk.newAt _ _ (by simp)).alloc _
  clear hW
  refine (trimHeading_no _ _ text i nl W hi hT hl c1).mono ?_
  rintro e w1 ⟨rfl, hm1⟩
  have hk : Same w w1 := hm0.trans hm1
  have hb1 := Same.blk hm1 hb
  have hr1 := Same.blk hm1 hr
  obtain ⟨g0, g1, g2, g3, g4, gf0, gf1, gf2, gf3, gf4, gbl⟩ := LineAt.facts hb1
  obtain ⟨r0, r1, r2, r3, r4, rf0, rf1, rf2, rf3, rf4, rbl⟩ := LineAt.facts hr1
  clear hb hr hb1 hm1 hm0 c1 hl
  go_wp2
  exact bodyPost_ret (v := .tuple #[LV i text nl, .bool false]) (by simp [results, Tryz.results96, go_sem, r0, r1, r2, r3, r4]) rfl ⟨rfl, by
    exact hk.then ((put5 hr1 i text nl).1) (by intro b hb; omega)⟩
end Go.Proofs.YtdnlfdppjfjncaaGreatDoor
