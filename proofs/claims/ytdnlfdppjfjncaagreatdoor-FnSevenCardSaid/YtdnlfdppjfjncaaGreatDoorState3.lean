/- The trials for fences and items of lists, where the line begins none. -/
import Derived.Test.YtdnlfdppjfjncaaGreatDoorState2
namespace Go.Proofs.YtdnlfdppjfjncaaGreatDoor
open Go Go.RowKit Go.Proofs

theorem at0_eq {text : ByteArray} {i : Nat} (h : i < text.size) : at0 text i = text[i] := by simp [at0, h]

/-- Of the first n spaces, taken one by one. -/
theorem lead_one {text : ByteArray} {i k : Nat} (h : lead text i k = k) (hs : at0 text (i + k) = 32) : lead text i (k + 1) = k + 1 := by
  rw [lead_step text k i h]
  unfold at0 at hs
  split at hs
  · rename_i h1
    rw [dif_pos h1, if_pos hs]
  · cases hs
theorem lead_all {text : ByteArray} {i k m : Nat} (h : lead text i k = k) (hs : at0 text (i + k) ≠ 32) : lead text i (k + m) = k := by
  refine lead_stop text k i m h (fun h1 e => hs ?_)
  simp [at0, h1, e]

def FRel (w wr : World) (bt bn : Nat) (text : ByteArray) (i k : Nat) (nl : Int) : Prop :=
  k ≤ 3 ∧ lead text i k = k ∧ Mods (fun b => b = bt ∨ b = bn) w wr ∧ LineAt wr bt (i + k) text nl ∧ Blk wr bn #[.int .i64 k] 3

set_option maxHeartbeats 1000000 in
theorem trimFence_no (b bn : Nat) (f g : Value) (x : Int) (text : ByteArray) (i : Nat) (nl : Int) (w : World) (hi : i ≤ text.size) (hT : Txt text) (hL : LineAt w b i text nl)
    (hn : Blk w bn #[.int .i64 x] 3) (c1 : ((at0 text (p3 text i)).toNat : Int) ≠ 96) (c2 : ((at0 text (p3 text i)).toNat : Int) ≠ 126) :
    Calls Tryz.prog 151 #[.pointer (some ⟨b, 0, none⟩), f, g, .pointer (some ⟨bn, 0, none⟩)] w
      fun e w' => e = .returned (.bool false) ∧ Mods (fun k => k = bn) w w' ∧ ∃ y : Nat, Blk w' bn #[.int .i64 y] 3 := by
  obtain ⟨h0, h1, h2, h3, h4, hf0, hf1, hf2, hf3, hf4, hbl⟩ := hL.facts
  have d1 := bne_of c1
  have d2 := bne_of c2
  have n0 : w.cell? ⟨bn, 0, none⟩ = some (.int .i64 x) := hn.cell 0
  have nf : w.frozen? ⟨bn, 0, none⟩ = false := hn.fr 0
  have nb : bn < w.heap.size := hn.lt
  go_enter Tryz.func151, Tryz.ntmps151
  go_wp2
  go_loopg [] 3 (fun g wr => ∃ k : Nat, g = 3 - k ∧ FRel w wr w.heap.size bn text i k nl)
  case atStart =>
    refine ⟨0, rfl, by omega, rfl, ?_, ?_, ?_⟩
    · exact ((Mods.refl (fun b => b = w.heap.size ∨ b = bn) w).setCell (p := ⟨bn, 0, none⟩) (fun _ => Or.inr rfl) _).alloc _
    · exact Blk.newAt _ _ (by simp)
    · exact (hn.set_same 0 _).alloc _
  case round =>
    obtain ⟨k, hg, hk3, hlk, hmw, hlw, hnw⟩ := hrel
    have HG := Lib.hid hg
    have HK := Lib.hid hlk
    clear hg hlk h0 h1 h2 h3 h4 hf0 hf1 hf2 hf3 hf4 n0 nf hL hn
    have n0 : wr.cell? ⟨bn, 0, none⟩ = some (.int .i64 k) := hnw.cell 0
    have nf : wr.frozen? ⟨bn, 0, none⟩ = false := hnw.fr 0
    have nbw : bn < wr.heap.size := hnw.lt
    have hik : i + k ≤ text.size := by have := (lead_le text k i).2 hi; have := HK.out; omega
    by_cases hlt : k < 3
    · go_wp2_with fail
      refine (trimSpace_11 _ text (i + k) false nl wr hik hT hlw).mono ?_
      rintro e w1 (⟨hs, rfl, hm1, hl1⟩ | ⟨hs, rfl, hm1, hl1⟩)
      · have hn1 := hnw.keep1 hm1 (by omega)
        clear n0 nf nbw
        have n0 : w1.cell? ⟨bn, 0, none⟩ = some (.int .i64 k) := hn1.cell 0
        have nf : w1.frozen? ⟨bn, 0, none⟩ = false := hn1.fr 0
        have nbw : bn < w1.heap.size := hn1.lt
        have HS := Lib.hid hs
        clear hs
        go_wp2
        go_roundg (3 - (k + 1))
        case measure => have := HG.out; omega
        case rel =>
          refine ⟨k + 1, rfl, by omega, lead_one HK.out HS.out, ?_, ?_, ?_⟩
          · exact (hmw.then hm1 (by intro b _ hb; exact Or.inl hb)).setCell (p := ⟨bn, 0, none⟩) (fun _ => Or.inr rfl) _
          · exact Blk.set_other hl1 (by show bn ≠ _; omega) _
          · exact hn1.set_same 0 _
      · have e1 : lead text i 3 = k := by
          have := lead_all (m := 3 - k) HK.out hs
          rwa [show k + (3 - k) = 3 by omega] at this
        have hn1 := hnw.keep1 hm1 (by omega)
        have hp : i + k = p3 text i := by unfold p3; rw [e1]
        clear e1 hs n0 nf nbw
        rw [hp] at hl1
        clear hp
        go_wp2_with fail
        refine (peek_any _ _ _ _ _ hT.size hl1).mono ?_
        rintro e w2 ⟨rfl, n, rfl⟩
        go_wp2
        go_ret
        refine ⟨rfl, ?_, k, hn1.drewN n⟩
        have hmm := (hmw.then hm1 (S' := fun k => k = w.heap.size) (by intro b _ hb; exact Or.inl hb)).drewN n
        exact hmm.mono (by intro b hb hs; rcases hs with hs | hs; exact absurd hs (by omega); exact hs)
    · have hk : k = 3 := by omega
      subst hk
      have hp : i + 3 = p3 text i := by unfold p3; rw [HK.out]
      rw [hp] at hlw
      clear hp
      go_wp2_with fail
      refine (peek_any _ _ _ _ _ hT.size hlw).mono ?_
      rintro e w2 ⟨rfl, n, rfl⟩
      go_wp2
      go_ret
      refine ⟨rfl, ?_, 3, hnw.drewN n⟩
      exact (hmw.drewN n).mono (by intro b hb hs; rcases hs with hs | hs; exact absurd hs (by omega); exact hs)

set_option maxRecDepth 100000 in
set_option maxHeartbeats 1000000 in
theorem newFence_no (q : Value) (text : ByteArray) (i : Nat) (nl : Int) (w : World) (hi : i ≤ text.size) (hT : Txt text)
    (c1 : ((at0 text (p3 text i)).toNat : Int) ≠ 96) (c2 : ((at0 text (p3 text i)).toNat : Int) ≠ 126) :
    Calls Tryz.prog 101 #[q, LV i text nl] w fun e w' => e = .returned (.tuple #[LV i text nl, .bool false]) ∧ Same w w' := by
  go_enter Tryz.func101, Tryz.ntmps101
  go_wp2_with fail
  generalize hW : ((((((w.alloc _).alloc _).alloc _).alloc _).alloc _).alloc _ : World) = W
  have hm0 : Same w W := by subst hW; exact ((((((Mods.refl _ w).alloc _).alloc _).alloc _).alloc _).alloc _).alloc _
  have hb : LineAt W w.heap.size i text nl := by subst hW; exact (((((Blk.newAt _ _ rfl).alloc _).alloc _).alloc _).alloc _).alloc _
  have hr : LineAt W (w.heap.size + 1) 0 ⟨#[]⟩ 0 := by subst hW; exact ((((Blk.newAt _ _ (by simp)).alloc _).alloc _).alloc _).alloc _
  have hn : Blk W (w.heap.size + 1 + 1 + 1 + 1) #[.int .i64 0] 3 := by subst hW; exact (Blk.newAt _ _ (by simp)).alloc _
  have hl : LineAt W (w.heap.size + 1 + 1 + 1 + 1 + 1) i text nl := by subst hW; exact Blk.newAt _ _ (by simp)
  clear hW
  refine (trimFence_no _ _ _ _ _ text i nl W hi hT hl hn c1 c2).mono ?_
  rintro e w1 ⟨rfl, hm1, y, hy⟩
  have hk : Same w w1 := hm0.then hm1 (by intro b hb; omega)
  have hb1 := Blk.keep1 hb hm1 (by omega)
  have hr1 := Blk.keep1 hr hm1 (by omega)
  obtain ⟨g0, g1, g2, g3, g4, gf0, gf1, gf2, gf3, gf4, gbl⟩ := LineAt.facts hb1
  obtain ⟨r0, r1, r2, r3, r4, rf0, rf1, rf2, rf3, rf4, rbl⟩ := LineAt.facts hr1
  clear hb hr hb1 hm1 hm0 hl hn hy c1 c2
  go_wp2
  exact bodyPost_ret (v := .tuple #[LV i text nl, .bool false]) (by simp [results, Tryz.results101, go_sem, r0, r1, r2, r3, r4]) rfl ⟨rfl, by
    exact hk.then ((put5 hr1 i text nl).1) (by intro b hb; omega)⟩
end Go.Proofs.YtdnlfdppjfjncaaGreatDoor
