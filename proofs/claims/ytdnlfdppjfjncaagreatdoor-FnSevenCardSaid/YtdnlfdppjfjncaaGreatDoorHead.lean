/- Seven signs # are no heading. -/
import Derived.Test.YtdnlfdppjfjncaaGreatDoorAddLine
namespace Go.Proofs.YtdnlfdppjfjncaaGreatDoor
open Go Go.RowKit Go.Proofs

/-- Seven # stand at place i. -/
def Seven (text : ByteArray) (i : Nat) : Prop := ∀ u, u < 7 → at0 text (i + u) = 35

theorem at0_lt {text : ByteArray} {i : Nat} {c : UInt8} (h : at0 text i = c) (hc : c ≠ 0) : ∃ hi : i < text.size, text[i] = c := by
  unfold at0 at h
  split at h
  · rename_i hi; exact ⟨hi, h⟩
  · exact absurd h.symm hc

set_option maxHeartbeats 4000000 in
theorem trimHeading_seven (b : Nat) (q : Value) (text : ByteArray) (i : Nat) (nl : Int) (w : World) (hi : i ≤ text.size) (hT : Txt text) (hL : LineAt w b i text nl)
    (h7 : Seven text (p3 text i)) :
    Calls Tryz.prog 135 #[.pointer (some ⟨b, 0, none⟩), q] w fun e w' => e = .returned (.bool false) ∧ Same w w' := by
  have hp := (p3_le hi).2
  obtain ⟨h0, h1, h2, h3, h4, hf0, hf1, hf2, hf3, hf4, hbl⟩ := hL.facts
  have H7 := Lib.hid (fun u (hu : u < 7) => at0_lt (h7 u hu) (by decide))
  clear h7
  go_enter Tryz.func135, Tryz.ntmps135
  go_wp2_with fail
  generalize hW : (w.alloc _ : World) = W
  have hm0 : Same w W := by subst hW; exact (Mods.refl _ w).alloc _
  have hl : LineAt W (w.heap.size) i text nl := by subst hW; exact Blk.newAt _ _ rfl
  clear hW h0 h1 h2 h3 h4 hf0 hf1 hf2 hf3 hf4 hbl hL
  refine (trimSpace_03 _ text i nl W hi hT hl).mono ?_
  rintro e w1 ⟨rfl, hm1, hl1⟩
  have hk : Same w w1 := hm0.then hm1 (by intro b hb; omega)
  clear hl hm0 hm1
  go_wp2_with fail
  obtain ⟨q0, q1⟩ := H7.out 0 (by omega)
  refine (trim_yes _ _ text 35 nl w1 hT.size hl1 q0 (by have : text[p3 text i] = 35 := q1; rw [this]; rfl)).mono ?_
  rintro e w2 ⟨rfl, hm2, hl2⟩
  have hk2 : Same w w2 := hk.then hm2 (by intro b hb; omega)
  clear hl1 hm2 hk q1
  generalize hP : p3 text i = P at *
  clear hP
  go_wp2_with fail
  go_loopg [6] 5 (fun g n wr => ∃ k : Nat, g = 6 - k ∧ n = .int .i64 k ∧ 1 ≤ k ∧ k ≤ 6 ∧ Same w wr ∧ LineAt wr w.heap.size (P + k) text nl)
  case atStart => exact ⟨1, rfl, rfl, by omega, by omega, hk2, hl2⟩
  case round =>
    clear hk2 hl2
    obtain ⟨k, hg, rfl, hk1, hk6, hmw, hlw⟩ := hrel
    have HG := Lib.hid hg
    clear hg
    by_cases hlt : k < 6
    · have v1 : (k : Int) < 6 := by omega
      have v3 : IntKind.i64.wrap ((k : Int) + 1) = (k : Int) + 1 := IntWalk.i64_in _ (by omega)
      obtain ⟨r0, r1⟩ := H7.out k (by omega)
      have HR := Lib.hid r1
      clear r1
      go_wp2_with fail
      refine (trim_yes _ _ text 35 nl wr hT.size hlw r0 (by rw [HR.out]; rfl)).mono ?_
      rintro e w3 ⟨rfl, hm3, hl3⟩
      go_wp2_with fail
      go_roundg (6 - (k + 1))
      case measure => have := HG.out; omega
      case rel => exact ⟨k + 1, rfl, rfl, by omega, by omega, hmw.then hm3 (by intro b hb; omega), hl3⟩
    · have v1 : ¬ (k : Int) < 6 := by omega
      have hk : k = 6 := by omega
      obtain ⟨r0, r1⟩ := H7.out 6 (by omega)
      have hr : at0 text (P + 6) ≠ 32 := by rw [at0_eq r0, r1]; decide
      have hno : ¬ text.size ≤ P + 6 := by omega
      have HR := Lib.hid hr
      clear r1 hr
      subst hk
      go_wp2_with fail
      refine (trimSpace_11 _ text (P + 6) true nl wr (by omega) hT hlw).mono ?_
      rintro e w3 (⟨hs, rfl, hm3, hl3⟩ | ⟨hs, rfl, hm3, hl3⟩)
      · exact absurd hs HR.out
      · have hd : (true && decide (text.size ≤ P + 6)) = false := by simp; omega
        rw [hd]
        clear hs hd
        go_wp2
        go_ret
        exact ⟨rfl, hmw.then hm3 (by intro b hb; omega)⟩

set_option maxHeartbeats 1000000 in
theorem newATX_seven (p : Value) (text : ByteArray) (i : Nat) (nl : Int) (w : World) (hi : i ≤ text.size) (hT : Txt text) (h7 : Seven text (p3 text i)) :
    Calls Tryz.prog 96 #[p, LV i text nl] w fun e w' => e = .returned (.tuple #[LV i text nl, .bool false]) ∧ Same w w' := by
  go_enter Tryz.func96, Tryz.ntmps96
  go_wp2_with fail
  generalize hW : ((((w.alloc _).alloc _).alloc _).alloc _ : World) = W
  have hm0 : Same w W := by subst hW; exact ((((Mods.refl _ w).alloc _).alloc _).alloc _).alloc _
  have hb : LineAt W w.heap.size i text nl := by subst hW; exact (((Blk.newAt _ _ rfl).alloc _).alloc _).alloc _
  have hr : LineAt W (w.heap.size + 1) 0 ⟨#[]⟩ 0 := by subst hW; exact ((Blk.newAt _ _ (by simp)).alloc _).alloc _
  have hl : LineAt W (w.heap.size + 1 + 1) i text nl := by subst hW; exact (Blk.newAt _ _ (by simp)).alloc _
  clear hW
  refine (trimHeading_seven _ _ text i nl W hi hT hl h7).mono ?_
  rintro e w1 ⟨rfl, hm1⟩
  have hk : Same w w1 := hm0.trans hm1
  have hb1 := Same.blk hm1 hb
  have hr1 := Same.blk hm1 hr
  obtain ⟨g0, g1, g2, g3, g4, gf0, gf1, gf2, gf3, gf4, gbl⟩ := LineAt.facts hb1
  obtain ⟨r0, r1, r2, r3, r4, rf0, rf1, rf2, rf3, rf4, rbl⟩ := LineAt.facts hr1
  clear hb hr hb1 hm1 hm0 h7 hl
  go_wp2
  exact bodyPost_ret (v := .tuple #[LV i text nl, .bool false]) (by simp [results, Tryz.results96, go_sem, r0, r1, r2, r3, r4]) rfl ⟨rfl, by
    exact hk.then ((put5 hr1 i text nl).1) (by intro b hb; omega)⟩

/-- The line begins a paragraph: no sign of a block, or seven # and more. -/
def Begins (text : ByteArray) (i : Nat) : Prop := Plain text i ∨ Seven text (p3 text i)

theorem triesNo_begins (bp g n cap : Nat) (p : PSt) (T : Nat) (v : Value) (text : ByteArray) (i : Nat) (nl : Int) (w : World) (h : NoPara w bp g n cap p T v) (hd : p.depth = n)
    (hT4 : T ≠ 242) (hi : i ≤ text.size) (hT : Txt text) (hP : Begins text i) : TriesNo w bp i text nl := by
  rcases hP with hP | h7
  · exact triesNo_first bp g n cap p T v text i nl w h hd hT4 hi hT hP
  · intro f hf W hW
    have h1 := h.same hW
    have h35 : at0 text (p3 text i) = 35 := h7 0 (by omega)
    have hc : ∀ k : Int, k ≠ 35 → ((at0 text (p3 text i)).toNat : Int) ≠ k := by
      intro k hk e; rw [h35] at e; exact hk e.symm
    have h32 : at0 text (p3 text i) ≠ 32 := by rw [h35]; decide
    have hno : ItemNo text i := by
      left
      intro k hk
      refine hc k ?_
      rintro rfl
      revert hk
      decide
    simp only [List.mem_cons, List.not_mem_nil, or_false] at hf
    rcases hf with rfl | rfl | rfl | rfl | rfl | rfl | rfl | rfl
    · exact newQuote_no _ text i nl W hi hT (hc _ (by decide))
    · exact newATX_seven _ text i nl W hi hT h7
    · exact newSetext_first bp g n cap p T v text i nl W h1 hd
    · exact newHR_no _ text i nl W hi hT (hc _ (by decide)) (hc _ (by decide)) (hc _ (by decide))
    · exact newListItem_no bp g (n + 1) cap none p T n v text i nl W h1.at_ h1.stack hd (by omega) h1.small h1.top hT4 hi hT hno
    · exact newHTML_no _ text i nl W hi hT (hc _ (by decide))
    · exact newFence_no _ text i nl W hi hT (hc _ (by decide)) (hc _ (by decide))
    · exact newPre_first bp g n cap p T v text i nl W hi hT h1 h32
end Go.Proofs.YtdnlfdppjfjncaaGreatDoor
