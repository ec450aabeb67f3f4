/- The trial for an item of a list, where the line begins none. -/
import Derived.Test.YtdnlfdppjfjncaaGreatDoorState3
namespace Go.Proofs.YtdnlfdppjfjncaaGreatDoor
open Go Go.RowKit Go.Proofs

/-- The byte is no bullet and no digit. -/
def NoItem (c : UInt8) : Prop := ∀ k ∈ [(45 : Int), 42, 43, 48, 49, 50, 51, 52, 53, 54, 55, 56, 57], (c.toNat : Int) ≠ k

def IRel (w wr : World) (bt : Nat) (text : ByteArray) (i k : Nat) (nl : Int) : Prop :=
  k ≤ 3 ∧ lead text i k = k ∧ Same w wr ∧ LineAt wr bt (i + k) text nl

set_option maxRecDepth 100000 in
set_option maxHeartbeats 2000000 in
theorem startListItem_no (b bp : Nat) (text : ByteArray) (i : Nat) (nl : Int) (w : World) (hi : i ≤ text.size) (hT : Txt text) (hL : LineAt w b i text nl)
    (hc : NoItem (at0 text (p3 text i))) :
    Calls Tryz.prog 149 #[.pointer (some ⟨bp, 0, none⟩), .pointer (some ⟨b, 0, none⟩)] w fun e w' => e = .returned (.bool false) ∧ Same w w' := by
  obtain ⟨h0, h1, h2, h3, h4, hf0, hf1, hf2, hf3, hf4, hbl⟩ := hL.facts
  have c1 := bne_of (hc 45 (by decide))
  have c2 := bne_of (hc 42 (by decide))
  have c3 := bne_of (hc 43 (by decide))
  have d0 := bne_of (hc 48 (by decide))
  have d1 := bne_of (hc 49 (by decide))
  have d2 := bne_of (hc 50 (by decide))
  have d3 := bne_of (hc 51 (by decide))
  have d4 := bne_of (hc 52 (by decide))
  have d5 := bne_of (hc 53 (by decide))
  have d6 := bne_of (hc 54 (by decide))
  have d7 := bne_of (hc 55 (by decide))
  have d8 := bne_of (hc 56 (by decide))
  have d9 := bne_of (hc 57 (by decide))
  clear hc
  go_enter Tryz.func149, Tryz.ntmps149
  go_wp2
  go_step3
  go_wp2
  go_loopg [6, 7] 3 (fun g n j wr => ∃ k : Nat, g = 3 - k ∧ n = .int .i64 k ∧ j = .int .i64 k ∧ IRel w wr (w.heap.size + 1) text i k nl)
  case atStart =>
    refine ⟨0, rfl, rfl, rfl, by omega, rfl, ?_, ?_⟩
    · exact ((Mods.refl _ w).alloc _).alloc _
    · exact Blk.newAt _ _ (by simp)
  case round =>
    obtain ⟨k, hg, rfl, rfl, hk3, hlk, hmw, hlw⟩ := hrel
    have HG := Lib.hid hg
    have HK := Lib.hid hlk
    clear hg hlk h0 h1 h2 h3 h4 hf0 hf1 hf2 hf3 hf4 hL
    have hik : i + k ≤ text.size := by have := (lead_le text k i).2 hi; have := HK.out; omega
    by_cases hlt : k < 3
    · go_wp2_with fail
      refine (trimSpace_11 _ text (i + k) false nl wr hik hT hlw).mono ?_
      rintro e w1 (⟨hs, rfl, hm1, hl1⟩ | ⟨hs, rfl, hm1, hl1⟩)
      · have HS := Lib.hid hs
        clear hs
        go_wp2
        go_roundg (3 - (k + 1))
        case measure => have := HG.out; omega
        case rel =>
          exact ⟨k + 1, rfl, by go_num, by go_num, by omega, lead_one HK.out HS.out, hmw.then hm1 (by intro b hb; omega), hl1⟩
      · have e1 : lead text i 3 = k := by
          have := lead_all (m := 3 - k) HK.out hs
          rwa [show k + (3 - k) = 3 by omega] at this
        have hp : i + k = p3 text i := by unfold p3; rw [e1]
        clear e1 hs
        rw [hp] at hl1
        clear hp
        go_wp2_with fail
        refine (peek_any _ _ _ _ _ hT.size hl1).mono ?_
        rintro e w2 ⟨rfl, n, rfl⟩
        go_wp2
        go_step3
        go_wp2
        try rw [Exit.noGoto_ret]
        go_ret
        exact ⟨rfl, (hmw.then hm1 (by intro b hb; omega)).drewN n⟩
    · have hk : k = 3 := by omega
      subst hk
      have hp : i + 3 = p3 text i := by unfold p3; rw [HK.out]
      rw [hp] at hlw
      clear hp
      go_wp2_with fail
      refine (peek_any _ _ _ _ _ hT.size hlw).mono ?_
      rintro e w2 ⟨rfl, n, rfl⟩
      go_wp2
      go_step3
      go_wp2
      try rw [Exit.noGoto_ret]
      go_ret
      exact ⟨rfl, hmw.drewN n⟩
def isDig (c : UInt8) : Prop := 48 ≤ (c.toNat : Int) ∧ (c.toNat : Int) ≤ 57

/-- Behind the digits that begin at place j stands no full stop and no parenthesis. -/
def NumNo (text : ByteArray) (j : Nat) : Prop :=
  ∀ t, (∀ u, u < t → isDig (at0 text (j + u))) → (at0 text (j + t)).toNat ≠ 46 ∧ (at0 text (j + t)).toNat ≠ 41

def DRel (w wr : World) (bt : Nat) (text : ByteArray) (i t : Nat) (nl : Int) : Prop :=
  p3 text i + t ≤ text.size ∧ (∀ u, u < t → isDig (at0 text (p3 text i + u))) ∧ Same w wr ∧ LineAt wr bt (p3 text i) text nl

theorem dig_cases {c : UInt8} (h : isDig c) : (c.toNat : Int) = 48 ∨ (c.toNat : Int) = 49 ∨ (c.toNat : Int) = 50 ∨ (c.toNat : Int) = 51 ∨ (c.toNat : Int) = 52 ∨
    (c.toNat : Int) = 53 ∨ (c.toNat : Int) = 54 ∨ (c.toNat : Int) = 55 ∨ (c.toNat : Int) = 56 ∨ (c.toNat : Int) = 57 := by
  unfold isDig at h
  omega

theorem dig_last {c : UInt8} (h : isDig c) (h0 : ((c.toNat : Int) == 48) = false) (h1 : ((c.toNat : Int) == 49) = false) (h2 : ((c.toNat : Int) == 50) = false)
    (h3 : ((c.toNat : Int) == 51) = false) (h4 : ((c.toNat : Int) == 52) = false) (h5 : ((c.toNat : Int) == 53) = false) (h6 : ((c.toNat : Int) == 54) = false)
    (h7 : ((c.toNat : Int) == 55) = false) (h8 : ((c.toNat : Int) == 56) = false) : Value.bool ((c.toNat : Int) == 57) = .bool true := by
  rw [beq_eq_false_iff_ne] at h0 h1 h2 h3 h4 h5 h6 h7 h8
  unfold isDig at h
  rw [beq_iff_eq.2 (by omega : (c.toNat : Int) = 57)]

set_option maxRecDepth 100000 in
set_option maxHeartbeats 8000000 in
theorem startListItem_num (b bp : Nat) (text : ByteArray) (i : Nat) (nl : Int) (w : World) (hi : i ≤ text.size) (hT : Txt text) (hL : LineAt w b i text nl)
    (hd : isDig (at0 text (p3 text i))) (hN : NumNo text (p3 text i)) :
    Calls Tryz.prog 149 #[.pointer (some ⟨bp, 0, none⟩), .pointer (some ⟨b, 0, none⟩)] w fun e w' => e = .returned (.bool false) ∧ Same w w' := by
  obtain ⟨h0, h1, h2, h3, h4, hf0, hf1, hf2, hf3, hf4, hbl⟩ := hL.facts
  have hp := (p3_le hi).2
  have hs := hT.size
  have HN := Lib.hid hN
  have HD := Lib.hid hd
  clear hN hd
  go_enter Tryz.func149, Tryz.ntmps149
  go_wp2
  go_step3
  go_wp2
  go_loopg [6, 7] 3 (fun g n j wr => ∃ k : Nat, g = 3 - k ∧ n = .int .i64 k ∧ j = .int .i64 k ∧ IRel w wr (w.heap.size + 1) text i k nl)
  case atStart =>
    refine ⟨0, rfl, rfl, rfl, by omega, rfl, ?_, ?_⟩
    · exact ((Mods.refl _ w).alloc _).alloc _
    · exact Blk.newAt _ _ (by simp)
  case round =>
    obtain ⟨k, hg, rfl, rfl, hk3, hlk, hmw, hlw⟩ := hrel
    have HG := Lib.hid hg
    have HK := Lib.hid hlk
    clear hg hlk h0 h1 h2 h3 h4 hf0 hf1 hf2 hf3 hf4 hL
    have hik : i + k ≤ text.size := by have := (lead_le text k i).2 hi; have := HK.out; omega
    by_cases hlt : k < 3
    · go_wp2_with fail
      refine (trimSpace_11 _ text (i + k) false nl wr hik hT hlw).mono ?_
      rintro e w1 (⟨hs, rfl, hm1, hl1⟩ | ⟨hs, rfl, hm1, hl1⟩)
      · have HS := Lib.hid hs
        clear hs
        go_wp2
        go_roundg (3 - (k + 1))
        case measure => have := HG.out; omega
        case rel =>
          exact ⟨k + 1, rfl, by go_num, by go_num, by omega, lead_one HK.out HS.out, hmw.then hm1 (by intro b hb; omega), hl1⟩
      · have e1 : lead text i 3 = k := by
          have := lead_all (m := 3 - k) HK.out hs
          rwa [show k + (3 - k) = 3 by omega] at this
        have hp : i + k = p3 text i := by unfold p3; rw [e1]
        clear e1 hs
        rw [hp] at hl1
        clear hp
        go_wp2_with fail
        refine (peek_any _ _ _ _ _ hT.size hl1).mono ?_
        rintro e w2 ⟨rfl, n, rfl⟩
        have hW : Same w (w1.drewN n) := (hmw.then hm1 (by intro b hb; omega)).drewN n
        have hl2 : LineAt (w1.drewN n) (w.heap.size + 1) (p3 text i) text nl := hl1
        generalize w1.drewN n = w3 at *
        obtain ⟨q0, q1, q2, q3, q4, qf0, qf1, qf2, qf3, qf4, qbl⟩ := LineAt.facts hl2
        clear hl1 hm1 hmw hlw
        have b45 : (((at0 text (p3 text i)).toNat : Int) == 45) = false := beq_eq_false_iff_ne.2 (by have := HD.out; unfold isDig at this; omega)
        have b42 : (((at0 text (p3 text i)).toNat : Int) == 42) = false := beq_eq_false_iff_ne.2 (by have := HD.out; unfold isDig at this; omega)
        have b43 : (((at0 text (p3 text i)).toNat : Int) == 43) = false := beq_eq_false_iff_ne.2 (by have := HD.out; unfold isDig at this; omega)
        generalize hP : p3 text i = P at *
        clear hP
        go_wp2
        go_step3
        go_upto_if 40 with (fail)
        go_cut [40] (fun s40 wx => s40 = .bool true ∧ w3 = wx)
        case first =>
          go_wp2
          all_goals first
            | (go_meet; case rel => exact ⟨rfl, rfl⟩)
            | (go_meet; case rel => exact ⟨by first | exact congrArg Value.bool (by assumption) | exact dig_last HD.out (by assumption) (by assumption) (by assumption) (by assumption) (by assumption) (by assumption) (by assumption) (by assumption) (by assumption), rfl⟩)
        case rest =>
          obtain ⟨rfl, rfl⟩ := hcut
          go_wp2
          go_loopg [9, 10] (text.size - P) (fun g num j wr => ∃ (t : Nat) (z : Int), g = text.size - (P + t) ∧ num = .int .i64 z ∧ j = .int .i64 ((P : Int) + t) ∧ wr = w3 ∧ P + t ≤ text.size ∧ t ≤ 9 ∧ ∀ u, u < t → isDig (at0 text (P + u)))
          case atStart => exact ⟨0, 0, rfl, rfl, by simp, rfl, by omega, by omega, fun u hu => absurd hu (by omega)⟩
          case round =>
            obtain ⟨t, z, hg2, rfl, rfl, rfl, ht1, ht2, hdg⟩ := hrel
            have HG2 := Lib.hid hg2
            have HDG := Lib.hid hdg
            have hno := HN.out t hdg
            clear hg2 hdg
            by_cases hlt2 : P + t < text.size
            · have hat : at0 text (P + t) = text[P + t] := at0_eq hlt2
              rw [hat] at hno
              have e46 : (((text[P + t]).toNat : Int) == 46) = false := beq_eq_false_iff_ne.2 (by omega)
              have e41 : (((text[P + t]).toNat : Int) == 41) = false := beq_eq_false_iff_ne.2 (by omega)
              have HAT := Lib.hid hat
              clear hat hno
              by_cases hlo : ((text[P + t]).toNat : Int) < 48
              · go_wp2
                try rw [Exit.noGoto_ret]
                go_ret
                exact ⟨rfl, hW⟩
              · by_cases hhi : 57 < ((text[P + t]).toNat : Int)
                · go_wp2
                  try rw [Exit.noGoto_ret]
                  go_ret
                  exact ⟨rfl, hW⟩
                · by_cases h9 : t < 9
                  · go_wp2
                    go_roundg (text.size - (P + (t + 1)))
                    case measure => have := HG2.out; omega
                    case rel =>
                      refine ⟨t + 1, _, rfl, rfl, by go_num, rfl, by omega, by omega, fun u hu => ?_⟩
                      rcases Nat.lt_or_ge u t with h | h
                      · exact HDG.out u h
                      · have : u = t := by omega
                        subst this
                        rw [HAT.out]
                        unfold isDig
                        omega
                  · have h99 : t = 9 := by omega
                    subst h99
                    go_wp2
                    try rw [Exit.noGoto_ret]
                    go_ret
                    exact ⟨rfl, hW⟩
            · go_wp2
              try rw [Exit.noGoto_ret]
              go_ret
              exact ⟨rfl, hW⟩
    · have hk : k = 3 := by omega
      subst hk
      have hp3 : i + 3 = p3 text i := by unfold p3; rw [HK.out]
      rw [hp3] at hlw
      clear hp3
      go_wp2_with fail
      refine (peek_any _ _ _ _ _ hT.size hlw).mono ?_
      rintro e w2 ⟨rfl, n, rfl⟩
      have hW : Same w (wr.drewN n) := hmw.drewN n
      have hl2 : LineAt (wr.drewN n) (w.heap.size + 1) (p3 text i) text nl := hlw
      generalize wr.drewN n = w3 at *
      obtain ⟨q0, q1, q2, q3, q4, qf0, qf1, qf2, qf3, qf4, qbl⟩ := LineAt.facts hl2
      clear hmw hlw
      have b45 : (((at0 text (p3 text i)).toNat : Int) == 45) = false := beq_eq_false_iff_ne.2 (by have := HD.out; unfold isDig at this; omega)
      have b42 : (((at0 text (p3 text i)).toNat : Int) == 42) = false := beq_eq_false_iff_ne.2 (by have := HD.out; unfold isDig at this; omega)
      have b43 : (((at0 text (p3 text i)).toNat : Int) == 43) = false := beq_eq_false_iff_ne.2 (by have := HD.out; unfold isDig at this; omega)
      generalize hP : p3 text i = P at *
      clear hP
      go_wp2
      go_step3
      go_upto_if 40 with (fail)
      go_cut [40] (fun s40 wx => s40 = .bool true ∧ w3 = wx)
      case first =>
        go_wp2
        all_goals first
          | (go_meet; case rel => exact ⟨rfl, rfl⟩)
          | (go_meet; case rel => exact ⟨by first | exact congrArg Value.bool (by assumption) | exact dig_last HD.out (by assumption) (by assumption) (by assumption) (by assumption) (by assumption) (by assumption) (by assumption) (by assumption) (by assumption), rfl⟩)
      case rest =>
        obtain ⟨rfl, rfl⟩ := hcut
        go_wp2
        go_loopg [9, 10] (text.size - P) (fun g num j wr => ∃ (t : Nat) (z : Int), g = text.size - (P + t) ∧ num = .int .i64 z ∧ j = .int .i64 ((P : Int) + t) ∧ wr = w3 ∧ P + t ≤ text.size ∧ t ≤ 9 ∧ ∀ u, u < t → isDig (at0 text (P + u)))
        case atStart => exact ⟨0, 0, rfl, rfl, by simp, rfl, by omega, by omega, fun u hu => absurd hu (by omega)⟩
        case round =>
          obtain ⟨t, z, hg2, rfl, rfl, rfl, ht1, ht2, hdg⟩ := hrel
          have HG2 := Lib.hid hg2
          have HDG := Lib.hid hdg
          have hno := HN.out t hdg
          clear hg2 hdg
          by_cases hlt2 : P + t < text.size
          · have hat : at0 text (P + t) = text[P + t] := at0_eq hlt2
            rw [hat] at hno
            have e46 : (((text[P + t]).toNat : Int) == 46) = false := beq_eq_false_iff_ne.2 (by omega)
            have e41 : (((text[P + t]).toNat : Int) == 41) = false := beq_eq_false_iff_ne.2 (by omega)
            have HAT := Lib.hid hat
            clear hat hno
            by_cases hlo : ((text[P + t]).toNat : Int) < 48
            · go_wp2
              try rw [Exit.noGoto_ret]
              go_ret
              exact ⟨rfl, hW⟩
            · by_cases hhi : 57 < ((text[P + t]).toNat : Int)
              · go_wp2
                try rw [Exit.noGoto_ret]
                go_ret
                exact ⟨rfl, hW⟩
              · by_cases h9 : t < 9
                · go_wp2
                  go_roundg (text.size - (P + (t + 1)))
                  case measure => have := HG2.out; omega
                  case rel =>
                    refine ⟨t + 1, _, rfl, rfl, by go_num, rfl, by omega, by omega, fun u hu => ?_⟩
                    rcases Nat.lt_or_ge u t with h | h
                    · exact HDG.out u h
                    · have : u = t := by omega
                      subst this
                      rw [HAT.out]
                      unfold isDig
                      omega
                · have h99 : t = 9 := by omega
                  subst h99
                  go_wp2
                  try rw [Exit.noGoto_ret]
                  go_ret
                  exact ⟨rfl, hW⟩
          · go_wp2
            try rw [Exit.noGoto_ret]
            go_ret
            exact ⟨rfl, hW⟩
end Go.Proofs.YtdnlfdppjfjncaaGreatDoor
