/- Some texts of one proof, put into one file: Trim, State4, AddLine, Head, Parse, Print, Plain, Print2. -/
import Derived.Deep.LoopGhost
import Derived.Shelf.Strings.Builder1
import Derived.Shelf.Strings.Builder2
import Derived.Shelf.Strings.OnBuilder
import Derived.Shelf.Small.Utf8
import Derived.Shelf.Small.Strs
import Derived.Shelf.Strings.BuilderF
import Derived.Shelf.Strings.BuilderK
import Derived.Shelf.LaysM
import Derived.Shelf.Bytes.Len
import Derived.Shelf.Bytes.TryGrow
import Derived.Shelf.Bytes.GrowSliceCatch
import Derived.Shelf.Bytes.GrowSlice
import Derived.Shelf.Bytes.String
import Derived.Shelf.Strings.Search1
import Derived.Shelf.Bytes.GrowRow0Kept
import Derived.Shelf.Bytes.GrowRowKept
import Derived.Shelf.Bytes.GrowNilKept
import Derived.Shelf.Bytes.GrowKept
import Derived.Shelf.Bytes.WriteByteKept
import Derived.Shelf.Bytes.WriteStringKept
import Derived.Shelf.Bytes.ResetKept
import Derived.Shelf.Bytes.BufferK
import Derived.Shelf.Bits.Mul64
import Derived.Shelf.Unicode.DecodeSlow
import Derived.Test.YtdnlfdppjfjncaaGreatDoorProg
import Derived.Test.YtdnlfdppjfjncaaGreatDoorSt1
import Derived.Test.YtdnlfdppjfjncaaGreatDoorSt2
import Derived.Test.YtdnlfdppjfjncaaGreatDoorSt3
/- trimSpaceTab of a text that neither begins nor ends with white space. -/
namespace Go.Proofs.YtdnlfdppjfjncaaGreatDoor
open Go Go.RowKit Go.Proofs

theorem ext_all (s : ByteArray) : s.extract 0 s.size = s := by simp

set_option maxHeartbeats 2000000 in
theorem trimSpaceTab_id (s : ByteArray) (w : World) (hs : s.size ≤ 1000000) (h0 : 0 < s.size) (h1 : isW s[0] = false) (h2 : isW (s[s.size - 1]'(by omega)) = false) :
    Calls Tryz.prog 74 #[.string s] w fun e w' => e = .returned (.string s) ∧ w = w' := by
  obtain ⟨a1, a2⟩ := isW_no h1
  obtain ⟨b1, b2⟩ := isW_no h2
  clear h1 h2
  have w1 : (0 : Int) < s.size := by omega
  have w2 : IntKind.i64.wrap ((s.size : Int) - 1) = (s.size : Int) - 1 := IntWalk.i64_in _ (by omega)
  have w3 : (0 : Int) ≤ (s.size : Int) - 1 := by omega
  have w4 : ((s.size : Int) - 1).toNat = s.size - 1 := by omega
  have w5 : (s.size : Int) - 1 < s.size := by omega
  have he := ext_all s
  go_enter Tryz.func74, Tryz.ntmps74
  go_wp2_with fail
  go_loopg [3] 0 (fun k v wr => v = .int .i64 0 ∧ w = wr)
  case atStart => exact ⟨rfl, rfl⟩
  case round =>
    obtain ⟨rfl, rfl⟩ := hrel
    go_wp2_with fail
    go_loopg [4] 0 (fun k v wr => v = .int .i64 s.size ∧ w = wr)
    case atStart => exact ⟨rfl, rfl⟩
    case round =>
      obtain ⟨rfl, rfl⟩ := hrel
      go_wp2_with fail
      go_ret
      exact ⟨rfl, rfl⟩
end Go.Proofs.YtdnlfdppjfjncaaGreatDoor

/- The trial for an item of a list, where the line begins none. -/
namespace Go.Proofs.YtdnlfdppjfjncaaGreatDoor
open Go Go.RowKit Go.Proofs

/-- The byte is no bullet and no digit. -/
def NoItem (c : UInt8) : Prop := ∀ k ∈ [(45 : Int), 42, 43, 48, 49, 50, 51, 52, 53, 54, 55, 56, 57], (c.toNat : Int) ≠ k

def IRel (w wr : World) (bt : Nat) (text : ByteArray) (i k : Nat) (nl : Int) : Prop :=
  k ≤ 3 ∧ lead text i k = k ∧ Same w wr ∧ LineAt wr bt (i + k) text nl

set_option maxRecDepth 100000 in
set_option maxHeartbeats 2000000 in
theorem startListItem_no (b bp : Nat) (text : ByteArray) (i : Nat) (nl : Int) (w : World) (hi : i ≤ text.size) (hT : Txt text) (hL : LineAt w b i text nl)
    (hc : NoItem (at0 text (p3 text i))) :
    Calls Tryz.prog 149 #[.pointer (some ⟨bp, 0, none⟩), .pointer (some ⟨b, 0, none⟩)] w fun e w' => e = .returned (.bool false) ∧ Same w w' := by
  obtain ⟨h0, h1, h2, h3, h4, hf0, hf1, hf2, hf3, hf4, hbl⟩ := hL.facts
  have c1 := bne_of (hc 45 (by decide))
  have c2 := bne_of (hc 42 (by decide))
  have c3 := bne_of (hc 43 (by decide))
  have d0 := bne_of (hc 48 (by decide))
  have d1 := bne_of (hc 49 (by decide))
  have d2 := bne_of (hc 50 (by decide))
  have d3 := bne_of (hc 51 (by decide))
  have d4 := bne_of (hc 52 (by decide))
  have d5 := bne_of (hc 53 (by decide))
  have d6 := bne_of (hc 54 (by decide))
  have d7 := bne_of (hc 55 (by decide))
  have d8 := bne_of (hc 56 (by decide))
  have d9 := bne_of (hc 57 (by decide))
  clear hc
  go_enter Tryz.func149, Tryz.ntmps149
  go_wp2
  go_step3
  go_wp2
  go_loopg [6, 7] 3 (fun g n j wr => ∃ k : Nat, g = 3 - k ∧ n = .int .i64 k ∧ j = .int .i64 k ∧ IRel w wr (w.heap.size + 1) text i k nl)
  case atStart =>
    refine ⟨0, rfl, rfl, rfl, by omega, rfl, ?_, ?_⟩
    · exact ((Mods.refl _ w).alloc _).alloc _
    · exact Blk.newAt _ _ (by simp)
  case round =>
    obtain ⟨k, hg, rfl, rfl, hk3, hlk, hmw, hlw⟩ := hrel
    have HG := Lib.hid hg
    have HK := Lib.hid hlk
    clear hg hlk h0 h1 h2 h3 h4 hf0 hf1 hf2 hf3 hf4 hL
    have hik : i + k ≤ text.size := by have := (lead_le text k i).2 hi; have := HK.out; omega
    by_cases hlt : k < 3
    · go_wp2_with fail
      refine (trimSpace_11 _ text (i + k) false nl wr hik hT hlw).mono ?_
      rintro e w1 (⟨hs, rfl, hm1, hl1⟩ | ⟨hs, rfl, hm1, hl1⟩)
      · have HS := Lib.hid hs
        clear hs
        go_wp2
        go_roundg (3 - (k + 1))
        case measure => have := HG.out; omega
        case rel =>
          exact ⟨k + 1, rfl, by go_num, by go_num, by omega, lead_one HK.out HS.out, hmw.then hm1 (by intro b hb; omega), hl1⟩
      · have e1 : lead text i 3 = k := by
          have := lead_all (m := 3 - k) HK.out hs
          rwa [show k + (3 - k) = 3 by omega] at this
        have hp : i + k = p3 text i := by unfold p3; rw [e1]
        clear e1 hs
        rw [hp] at hl1
        clear hp
        go_wp2_with fail
        refine (peek_any _ _ _ _ _ hT.size hl1).mono ?_
        rintro e w2 ⟨rfl, n, rfl⟩
        go_wp2
        go_step3
        go_wp2
        try rw [Exit.noGoto_ret]
        go_ret
        exact ⟨rfl, (hmw.then hm1 (by intro b hb; omega)).drewN n⟩
    · have hk : k = 3 := by omega
      subst hk
      have hp : i + 3 = p3 text i := by unfold p3; rw [HK.out]
      rw [hp] at hlw
      clear hp
      go_wp2_with fail
      refine (peek_any _ _ _ _ _ hT.size hlw).mono ?_
      rintro e w2 ⟨rfl, n, rfl⟩
      go_wp2
      go_step3
      go_wp2
      try rw [Exit.noGoto_ret]
      go_ret
      exact ⟨rfl, hmw.drewN n⟩
def isDig (c : UInt8) : Prop := 48 ≤ (c.toNat : Int) ∧ (c.toNat : Int) ≤ 57

/-- Behind the digits that begin at place j stands no full stop and no parenthesis. -/
def NumNo (text : ByteArray) (j : Nat) : Prop :=
  ∀ t, (∀ u, u < t → isDig (at0 text (j + u))) → (at0 text (j + t)).toNat ≠ 46 ∧ (at0 text (j + t)).toNat ≠ 41

def DRel (w wr : World) (bt : Nat) (text : ByteArray) (i t : Nat) (nl : Int) : Prop :=
  p3 text i + t ≤ text.size ∧ (∀ u, u < t → isDig (at0 text (p3 text i + u))) ∧ Same w wr ∧ LineAt wr bt (p3 text i) text nl

theorem dig_cases {c : UInt8} (h : isDig c) : (c.toNat : Int) = 48 ∨ (c.toNat : Int) = 49 ∨ (c.toNat : Int) = 50 ∨ (c.toNat : Int) = 51 ∨ (c.toNat : Int) = 52 ∨
    (c.toNat : Int) = 53 ∨ (c.toNat : Int) = 54 ∨ (c.toNat : Int) = 55 ∨ (c.toNat : Int) = 56 ∨ (c.toNat : Int) = 57 := by
  unfold isDig at h
  omega

theorem dig_last {c : UInt8} (h : isDig c) (h0 : ((c.toNat : Int) == 48) = false) (h1 : ((c.toNat : Int) == 49) = false) (h2 : ((c.toNat : Int) == 50) = false)
    (h3 : ((c.toNat : Int) == 51) = false) (h4 : ((c.toNat : Int) == 52) = false) (h5 : ((c.toNat : Int) == 53) = false) (h6 : ((c.toNat : Int) == 54) = false)
    (h7 : ((c.toNat : Int) == 55) = false) (h8 : ((c.toNat : Int) == 56) = false) : Value.bool ((c.toNat : Int) == 57) = .bool true := by
  rw [beq_eq_false_iff_ne] at h0 h1 h2 h3 h4 h5 h6 h7 h8
  unfold isDig at h
  rw [beq_iff_eq.2 (by omega : (c.toNat : Int) = 57)]

set_option maxRecDepth 100000 in
set_option maxHeartbeats 8000000 in
theorem startListItem_num (b bp : Nat) (text : ByteArray) (i : Nat) (nl : Int) (w : World) (hi : i ≤ text.size) (hT : Txt text) (hL : LineAt w b i text nl)
    (hd : isDig (at0 text (p3 text i))) (hN : NumNo text (p3 text i)) :
    Calls Tryz.prog 149 #[.pointer (some ⟨bp, 0, none⟩), .pointer (some ⟨b, 0, none⟩)] w fun e w' => e = .returned (.bool false) ∧ Same w w' := by
  obtain ⟨h0, h1, h2, h3, h4, hf0, hf1, hf2, hf3, hf4, hbl⟩ := hL.facts
  have hp := (p3_le hi).2
  have hs := hT.size
  have HN := Lib.hid hN
  have HD := Lib.hid hd
  clear hN hd
  go_enter Tryz.func149, Tryz.ntmps149
  go_wp2
  go_step3
  go_wp2
  go_loopg [6, 7] 3 (fun g n j wr => ∃ k : Nat, g = 3 - k ∧ n = .int .i64 k ∧ j = .int .i64 k ∧ IRel w wr (w.heap.size + 1) text i k nl)
  case atStart =>
    refine ⟨0, rfl, rfl, rfl, by omega, rfl, ?_, ?_⟩
    · exact ((Mods.refl _ w).alloc _).alloc _
    · exact Blk.newAt _ _ (by simp)
  case round =>
    obtain ⟨k, hg, rfl, rfl, hk3, hlk, hmw, hlw⟩ := hrel
    have HG := Lib.hid hg
    have HK := Lib.hid hlk
    clear hg hlk h0 h1 h2 h3 h4 hf0 hf1 hf2 hf3 hf4 hL
    have hik : i + k ≤ text.size := by have := (lead_le text k i).2 hi; have := HK.out; omega
    by_cases hlt : k < 3
    · go_wp2_with fail
      refine (trimSpace_11 _ text (i + k) false nl wr hik hT hlw).mono ?_
      rintro e w1 (⟨hs, rfl, hm1, hl1⟩ | ⟨hs, rfl, hm1, hl1⟩)
      · have HS := Lib.hid hs
        clear hs
        go_wp2
        go_roundg (3 - (k + 1))
        case measure => have := HG.out; omega
        case rel =>
          exact ⟨k + 1, rfl, by go_num, by go_num, by omega, lead_one HK.out HS.out, hmw.then hm1 (by intro b hb; omega), hl1⟩
      · have e1 : lead text i 3 = k := by
          have := lead_all (m := 3 - k) HK.out hs
          rwa [show k + (3 - k) = 3 by omega] at this
        have hp : i + k = p3 text i := by unfold p3; rw [e1]
        clear e1 hs
        rw [hp] at hl1
        clear hp
        go_wp2_with fail
        refine (peek_any _ _ _ _ _ hT.size hl1).mono ?_
        rintro e w2 ⟨rfl, n, rfl⟩
        have hW : Same w (w1.drewN n) := (hmw.then hm1 (by intro b hb; omega)).drewN n
        have hl2 : LineAt (w1.drewN n) (w.heap.size + 1) (p3 text i) text nl := hl1
        generalize w1.drewN n = w3 at *
        obtain ⟨q0, q1, q2, q3, q4, qf0, qf1, qf2, qf3, qf4, qbl⟩ := LineAt.facts hl2
        clear hl1 hm1 hmw hlw
        have b45 : (((at0 text (p3 text i)).toNat : Int) == 45) = false := beq_eq_false_iff_ne.2 (by have := HD.out; unfold isDig at this; omega)
        have b42 : (((at0 text (p3 text i)).toNat : Int) == 42) = false := beq_eq_false_iff_ne.2 (by have := HD.out; unfold isDig at this; omega)
        have b43 : (((at0 text (p3 text i)).toNat : Int) == 43) = false := beq_eq_false_iff_ne.2 (by have := HD.out; unfold isDig at this; omega)
        generalize hP : p3 text i = P at *
        clear hP
        go_wp2
        go_step3
        go_upto_if 40 with (fail)
        go_cut [40] (fun s40 wx => s40 = .bool true ∧ w3 = wx)
        case first =>
          go_wp2
          all_goals first
            | (go_meet; case rel => exact ⟨rfl, rfl⟩)
            | (go_meet; case rel => exact ⟨by first | exact congrArg Value.bool (by assumption) | exact dig_last HD.out (by assumption) (by assumption) (by assumption) (by assumption) (by assumption) (by assumption) (by assumption) (by assumption) (by assumption), rfl⟩)
        case rest =>
          obtain ⟨rfl, rfl⟩ := hcut
          go_wp2
          go_loopg [9, 10] (text.size - P) (fun g num j wr => ∃ (t : Nat) (z : Int), g = text.size - (P + t) ∧ num = .int .i64 z ∧ j = .int .i64 ((P : Int) + t) ∧ wr = w3 ∧ P + t ≤ text.size ∧ t ≤ 9 ∧ ∀ u, u < t → isDig (at0 text (P + u)))
          case atStart => exact ⟨0, 0, rfl, rfl, by simp, rfl, by omega, by omega, fun u hu => absurd hu (by omega)⟩
          case round =>
            obtain ⟨t, z, hg2, rfl, rfl, rfl, ht1, ht2, hdg⟩ := hrel
            have HG2 := Lib.hid hg2
            have HDG := Lib.hid hdg
            have hno := HN.out t hdg
            clear hg2 hdg
            by_cases hlt2 : P + t < text.size
            · have hat : at0 text (P + t) = text[P + t] := at0_eq hlt2
              rw [hat] at hno
              have e46 : (((text[P + t]).toNat : Int) == 46) = false := beq_eq_false_iff_ne.2 (by omega)
              have e41 : (((text[P + t]).toNat : Int) == 41) = false := beq_eq_false_iff_ne.2 (by omega)
              have HAT := Lib.hid hat
              clear hat hno
              by_cases hlo : ((text[P + t]).toNat : Int) < 48
              · go_wp2
                try rw [Exit.noGoto_ret]
                go_ret
                exact ⟨rfl, hW⟩
              · by_cases hhi : 57 < ((text[P + t]).toNat : Int)
                · go_wp2
                  try rw [Exit.noGoto_ret]
                  go_ret
                  exact ⟨rfl, hW⟩
                · by_cases h9 : t < 9
                  · go_wp2
                    go_roundg (text.size - (P + (t + 1)))
                    case measure => have := HG2.out; omega
                    case rel =>
                      refine ⟨t + 1, _, rfl, rfl, by go_num, rfl, by omega, by omega, fun u hu => ?_⟩
                      rcases Nat.lt_or_ge u t with h | h
                      · exact HDG.out u h
                      · have : u = t := by omega
                        subst this
                        rw [HAT.out]
                        unfold isDig
                        omega
                  · have h99 : t = 9 := by omega
                    subst h99
                    go_wp2
                    try rw [Exit.noGoto_ret]
                    go_ret
                    exact ⟨rfl, hW⟩
            · go_wp2
              try rw [Exit.noGoto_ret]
              go_ret
              exact ⟨rfl, hW⟩
    · have hk : k = 3 := by omega
      subst hk
      have hp3 : i + 3 = p3 text i := by unfold p3; rw [HK.out]
      rw [hp3] at hlw
      clear hp3
      go_wp2_with fail
      refine (peek_any _ _ _ _ _ hT.size hlw).mono ?_
      rintro e w2 ⟨rfl, n, rfl⟩
      have hW : Same w (wr.drewN n) := hmw.drewN n
      have hl2 : LineAt (wr.drewN n) (w.heap.size + 1) (p3 text i) text nl := hlw
      generalize wr.drewN n = w3 at *
      obtain ⟨q0, q1, q2, q3, q4, qf0, qf1, qf2, qf3, qf4, qbl⟩ := LineAt.facts hl2
      clear hmw hlw
      have b45 : (((at0 text (p3 text i)).toNat : Int) == 45) = false := beq_eq_false_iff_ne.2 (by have := HD.out; unfold isDig at this; omega)
      have b42 : (((at0 text (p3 text i)).toNat : Int) == 42) = false := beq_eq_false_iff_ne.2 (by have := HD.out; unfold isDig at this; omega)
      have b43 : (((at0 text (p3 text i)).toNat : Int) == 43) = false := beq_eq_false_iff_ne.2 (by have := HD.out; unfold isDig at this; omega)
      generalize hP : p3 text i = P at *
      clear hP
      go_wp2
      go_step3
      go_upto_if 40 with (fail)
      go_cut [40] (fun s40 wx => s40 = .bool true ∧ w3 = wx)
      case first =>
        go_wp2
        all_goals first
          | (go_meet; case rel => exact ⟨rfl, rfl⟩)
          | (go_meet; case rel => exact ⟨by first | exact congrArg Value.bool (by assumption) | exact dig_last HD.out (by assumption) (by assumption) (by assumption) (by assumption) (by assumption) (by assumption) (by assumption) (by assumption) (by assumption), rfl⟩)
      case rest =>
        obtain ⟨rfl, rfl⟩ := hcut
        go_wp2
        go_loopg [9, 10] (text.size - P) (fun g num j wr => ∃ (t : Nat) (z : Int), g = text.size - (P + t) ∧ num = .int .i64 z ∧ j = .int .i64 ((P : Int) + t) ∧ wr = w3 ∧ P + t ≤ text.size ∧ t ≤ 9 ∧ ∀ u, u < t → isDig (at0 text (P + u)))
        case atStart => exact ⟨0, 0, rfl, rfl, by simp, rfl, by omega, by omega, fun u hu => absurd hu (by omega)⟩
        case round =>
          obtain ⟨t, z, hg2, rfl, rfl, rfl, ht1, ht2, hdg⟩ := hrel
          have HG2 := Lib.hid hg2
          have HDG := Lib.hid hdg
          have hno := HN.out t hdg
          clear hg2 hdg
          by_cases hlt2 : P + t < text.size
          · have hat : at0 text (P + t) = text[P + t] := at0_eq hlt2
            rw [hat] at hno
            have e46 : (((text[P + t]).toNat : Int) == 46) = false := beq_eq_false_iff_ne.2 (by omega)
            have e41 : (((text[P + t]).toNat : Int) == 41) = false := beq_eq_false_iff_ne.2 (by omega)
            have HAT := Lib.hid hat
            clear hat hno
            by_cases hlo : ((text[P + t]).toNat : Int) < 48
            · go_wp2
              try rw [Exit.noGoto_ret]
              go_ret
              exact ⟨rfl, hW⟩
            · by_cases hhi : 57 < ((text[P + t]).toNat : Int)
              · go_wp2
                try rw [Exit.noGoto_ret]
                go_ret
                exact ⟨rfl, hW⟩
              · by_cases h9 : t < 9
                · go_wp2
                  go_roundg (text.size - (P + (t + 1)))
                  case measure => have := HG2.out; omega
                  case rel =>
                    refine ⟨t + 1, _, rfl, rfl, by go_num, rfl, by omega, by omega, fun u hu => ?_⟩
                    rcases Nat.lt_or_ge u t with h | h
                    · exact HDG.out u h
                    · have : u = t := by omega
                      subst this
                      rw [HAT.out]
                      unfold isDig
                      omega
                · have h99 : t = 9 := by omega
                  subst h99
                  go_wp2
                  try rw [Exit.noGoto_ret]
                  go_ret
                  exact ⟨rfl, hW⟩
          · go_wp2
            try rw [Exit.noGoto_ret]
            go_ret
            exact ⟨rfl, hW⟩
end Go.Proofs.YtdnlfdppjfjncaaGreatDoor

/- addLine where the document alone is open and the line begins a paragraph. -/
namespace Go.Proofs.YtdnlfdppjfjncaaGreatDoor
open Go Go.RowKit Go.Proofs

/-- The line begins no item of a list. -/
def ItemNo (text : ByteArray) (i : Nat) : Prop := NoItem (at0 text (p3 text i)) ∨ (isDig (at0 text (p3 text i)) ∧ NumNo text (p3 text i))

theorem startListItem_none (b bp : Nat) (text : ByteArray) (i : Nat) (nl : Int) (w : World) (hi : i ≤ text.size) (hT : Txt text) (hL : LineAt w b i text nl) (hc : ItemNo text i) :
    Calls Tryz.prog 149 #[.pointer (some ⟨bp, 0, none⟩), .pointer (some ⟨b, 0, none⟩)] w fun e w' => e = .returned (.bool false) ∧ Same w w' := by
  rcases hc with h | ⟨h1, h2⟩
  · exact startListItem_no b bp text i nl w hi hT hL h
  · exact startListItem_num b bp text i nl w hi hT hL h1 h2

theorem as_list_no (T X : Nat) (v : Value) (w : World) (h : T ≠ 242) :
    (Instr.typeAssert (.iface T v) X 242 true).run Tryz.prog w = .ok (.tuple #[.pointer none, .bool false]) w :=
  as_ptr_no T _ 247 (by kernel_rfl) (fun _ => by kernel_rfl) X v w h

set_option maxRecDepth 100000 in
set_option maxHeartbeats 2000000 in
theorem newListItem_no (bp g n cap : Nat) (_a : Option Addr) (p : PSt) (T d : Nat) (v : Value) (text : ByteArray) (i : Nat) (nl : Int) (w : World) (hp : PsAt w bp p) (hst : p.stack = .slice (some ⟨g, 0, none⟩) n cap) (hd : p.depth = d) (hn : d < n) (hn2 : d ≤ 1000000)
    (hb : w.cell? ⟨g, d * 4, none⟩ = some (.iface T v)) (hT4 : T ≠ 242) (hi : i ≤ text.size) (hT : Txt text) (hc : ItemNo text i) :
    Calls Tryz.prog 99 #[.pointer (some ⟨bp, 0, none⟩), LV i text nl] w fun e w' => e = .returned (.tuple #[LV i text nl, .bool false]) ∧ Same w w' := by
  have hA := fun w => as_list_no T 118 v w hT4
  go_enter Tryz.func99, Tryz.ntmps99
  go_wp2_with fail
  generalize hW : ((w.alloc _).alloc _ : World) = W
  have hm0 : Same w W := by subst hW; exact ((Mods.refl _ w).alloc _).alloc _
  have hbk : LineAt W w.heap.size i text nl := by subst hW; exact (Blk.newAt _ _ rfl).alloc _
  have hr : LineAt W (w.heap.size + 1) 0 ⟨#[]⟩ 0 := by subst hW; exact Blk.newAt _ _ (by simp)
  clear hW
  have hb1 : W.cell? ⟨g, d * 4, none⟩ = some (.iface T v) := (World.cell?_of_block (hm0.block g (World.block_lt_of_cell? _ _ hb) (fun x => x))).trans hb
  refine (curB_some bp g n cap p W (hp.same hm0) hst d hd hn hn2 _ hb1).mono ?_
  rintro e w1 ⟨rfl, n1, rfl⟩
  have hm1 : Same W (W.drewN n1) := (Mods.refl _ W).drewN _
  generalize W.drewN n1 = W1 at *
  have hbk1 := Same.blk hm1 hbk
  have hr1 := Same.blk hm1 hr
  have hk := hm0.trans hm1
  clear hbk hr hm0 hm1 hb1 hd hst hp hb
  go_wp2_with fail
  refine (startListItem_none _ bp text i nl W1 hi hT hbk1 hc).mono ?_
  rintro e w2 ⟨rfl, hm2⟩
  have hbk2 := Same.blk hm2 hbk1
  have hr2 := Same.blk hm2 hr1
  have hk2 := hk.trans hm2
  obtain ⟨g0, g1, g2, g3, g4, gf0, gf1, gf2, gf3, gf4, gbl⟩ := LineAt.facts hbk2
  obtain ⟨r0, r1, r2, r3, r4, rf0, rf1, rf2, rf3, rf4, rbl⟩ := LineAt.facts hr2
  clear hbk1 hr1 hbk2 hc hk hm2
  go_wp2
  exact bodyPost_ret (v := .tuple #[LV i text nl, .bool false]) (by simp [results, Tryz.results99, go_sem, r0, r1, r2, r3, r4]) rfl ⟨rfl, by
    exact hk2.then ((put5 hr2 i text nl).1) (by intro b hb; omega)⟩
theorem news_any (w : World) : Calls Tryz.prog 71 #[] w fun e w' => ∃ b, e = .returned (.slice (some ⟨b, 0, none⟩) 8 8) ∧ Same w w' ∧
    Blk w' b #[.func (.func 95) #[] #[], .func (.func 96) #[] #[], .func (.func 97) #[] #[], .func (.func 98) #[] #[],
      .func (.func 99) #[] #[], .func (.func 100) #[] #[], .func (.func 101) #[] #[], .func (.func 102) #[] #[]] 124 := by
  go_enter Tryz.func71, Tryz.ntmps71
  go_wp2
  go_ret
  exact ⟨w.heap.size, rfl, (Mods.refl _ w).alloc _, Blk.newAt _ _ rfl⟩

/-- None of the eight functions begins a block with this line. -/
def TriesNo (w : World) (bp i : Nat) (text : ByteArray) (nl : Int) : Prop :=
  ∀ f ∈ [95, 96, 97, 98, 99, 100, 101, 102], ∀ W, Same w W →
    Calls Tryz.prog f #[.pointer (some ⟨bp, 0, none⟩), LV i text nl] W fun e w' => e = .returned (.tuple #[LV i text nl, .bool false]) ∧ Same W w'

/-- A line that begins with none of the signs of blocks. -/
structure Plain (text : ByteArray) (i : Nat) : Prop where
  c62 : ((at0 text (p3 text i)).toNat : Int) ≠ 62
  c35 : ((at0 text (p3 text i)).toNat : Int) ≠ 35
  c45 : ((at0 text (p3 text i)).toNat : Int) ≠ 45
  c95 : ((at0 text (p3 text i)).toNat : Int) ≠ 95
  c42 : ((at0 text (p3 text i)).toNat : Int) ≠ 42
  c60 : ((at0 text (p3 text i)).toNat : Int) ≠ 60
  c96 : ((at0 text (p3 text i)).toNat : Int) ≠ 96
  c126 : ((at0 text (p3 text i)).toNat : Int) ≠ 126
  c32 : at0 text (p3 text i) ≠ 32
  item : ItemNo text i

theorem triesNo_first (bp g n cap : Nat) (p : PSt) (T : Nat) (v : Value) (text : ByteArray) (i : Nat) (nl : Int) (w : World) (h : NoPara w bp g n cap p T v) (hd : p.depth = n)
    (hT4 : T ≠ 242) (hi : i ≤ text.size) (hT : Txt text) (hP : Plain text i) : TriesNo w bp i text nl := by
  intro f hf W hW
  have h1 := h.same hW
  simp only [List.mem_cons, List.not_mem_nil, or_false] at hf
  rcases hf with rfl | rfl | rfl | rfl | rfl | rfl | rfl | rfl
  · exact newQuote_no _ text i nl W hi hT hP.c62
  · exact newATX_no _ text i nl W hi hT hP.c35
  · exact newSetext_first bp g n cap p T v text i nl W h1 hd
  · exact newHR_no _ text i nl W hi hT hP.c45 hP.c95 hP.c42
  · exact newListItem_no bp g (n + 1) cap none p T n v text i nl W h1.at_ h1.stack hd (by omega) h1.small h1.top hT4 hi hT hP.item
  · exact newHTML_no _ text i nl W hi hT hP.c60
  · exact newFence_no _ text i nl W hi hT hP.c96 hP.c126
  · exact newPre_first bp g n cap p T v text i nl W hi hT h1 hP.c32

def blankAt (text : ByteArray) (i : Nat) : Bool := (trimL (text.extract i text.size)).toList.isEmpty

set_option maxRecDepth 100000 in
set_option maxHeartbeats 4000000 in
theorem addLine_first (bp g cap : Nat) (p : PSt) (T : Nat) (v : Value) (l : List Value) (text : ByteArray) (nl : Int) (w : World) (h : NoPara w bp g 0 cap p T v)
    (hs : text.size ≤ 1000000) (hbl : blankAt text 0 = false) (hO : Opt w p 5 false) (hown : w.ownsRow 0 121 4 p.stack 1 l) (hp51 : p.parser ≠ bp)
    (hN : ∀ W, NoPara W bp g 0 cap { p with depth := 0 } T v → TriesNo W bp 0 text nl) :
    Calls Tryz.prog 64 #[.pointer (some ⟨bp, 0, none⟩), LV 0 text nl] w fun e w' => e = .returned (.tuple #[]) ∧ ParaNew w w' bp { p with depth := 0 } 0 l (trimL (text.extract 0 text.size)) := by
  have k5 := h.at_.depth
  have f5 := h.at_.fr 5
  have hbpl := h.at_.lt
  go_enter Tryz.func64, Tryz.ntmps64
  go_wp2
  go_step3
  go_wp2
  generalize hW : (World.alloc _ _ : World) = W
  have hp0 : PsAt W bp { p with depth := 0 } := by subst hW; exact PsAt.alloc (h.at_.set 5 _ { p with depth := 0 } rfl (by decide)) _
  have hm0 : Mods (fun k => k = bp) w W := by subst hW; exact ((Mods.refl (fun k => k = bp) w).setCell (p := ⟨bp, 5, none⟩) (fun _ => rfl) _).alloc _
  have hbk : LineAt W w.heap.size 0 text nl := by subst hW; exact Blk.newAt _ _ (by simp)
  clear hW
  obtain ⟨tail, htl⟩ := id h.at_
  obtain ⟨_, _, he, ⟨cur, hcur⟩, _, _⟩ := ownsRow_form (h.stack ▸ hown) (by omega)
  cases he
  have hgbp : g ≠ bp := hcur.ne_of_type htl (by decide)
  have h0 : NoPara W bp g 0 cap { p with depth := 0 } T v := ⟨hp0, h.stack, h.small, (World.cell?_of_block (hm0.block g (World.block_lt_of_cell? _ _ h.top) hgbp)).trans h.top, h.other⟩
  have hown0 : W.ownsRow 0 121 4 p.stack 1 l := ownsRow_keep hown hm0 (by rw [h.stack]; intro k hk; cases hk; exact hgbp)
  have hO0 : Opt W p 5 false := hO.keep hm0 hp51
  have hTN := hN W h0
  have k4 : W.cell? ⟨bp, 4, none⟩ = some (.slice (some ⟨g, 0, none⟩) 1 cap) := by have := hp0.stack; rw [h.stack] at this; exact this
  have k5' := hp0.depth
  clear k5 f5 hbpl hcur htl
  go_loopg [] 0 (fun g wr => W = wr)
  case atStart => rfl
  case round =>
    subst hrel
    go_wp2_with fail
    go_quiet (fail)
    generalize hX : (W.drewN _ : World) = W1
    have hm1 : Same W W1 := by subst hX; exact (Mods.refl _ W).drewN _
    clear hX k4 k5'
    have hbk1 := Same.blk hm1 hbk
    go_wp2_with fail
    refine (isBlank_any _ _ _ _ _ hs (by omega) hbk1).mono ?_
    rintro e w2 ⟨rfl, n2, rfl⟩
    rw [show (trimL (text.extract 0 text.size)).toList.isEmpty = false from hbl]
    have hm2 : Same W (W1.drewN n2) := hm1.drewN _
    generalize W1.drewN n2 = W2 at *
    have hbk2 := Same.blk hm2 hbk
    clear hm1 hbk1 hbl
    go_wp2_with fail
    go_step3
    go_wp2_with fail
    refine (news_any _).mono ?_
    rintro e w3 ⟨nb, rfl, hm3, hnb⟩
    have hm4 := hm2.trans hm3
    have hbk3 := Same.blk hm3 hbk2
    clear hm2 hbk2
    go_wp2
    go_loopg [88] 8 (fun gg j wr => ∃ k : Nat, gg = 8 - k ∧ j = .int .i64 k ∧ k ≤ 8 ∧ Same w3 wr)
    case atStart => exact ⟨0, rfl, rfl, by omega, Mods.refl _ _⟩
    case round =>
      obtain ⟨k, hg, rfl, hk8, hr5⟩ := hrel
      have hm5 := hm4.trans hr5
      have hbk5 := Same.blk hr5 hbk3
      have hnb5 := Same.blk hr5 hnb
      obtain ⟨g0, g1, g2, g3, g4, gf0, gf1, gf2, gf3, gf4, gbl⟩ := LineAt.facts hbk5
      have hcases : k = 0 ∨ k = 1 ∨ k = 2 ∨ k = 3 ∨ k = 4 ∨ k = 5 ∨ k = 6 ∨ k = 7 ∨ k = 8 := by omega
      rcases hcases with rfl | rfl | rfl | rfl | rfl | rfl | rfl | rfl | rfl
      · have n0 : wr.cell? ⟨nb, 0, none⟩ = some (.func (.func 95) #[] #[]) := hnb5.cell 0
        go_wp2_with fail
        refine (hTN 95 (by simp) wr hm5).mono ?_
        rintro e w6 ⟨rfl, hm6⟩
        clear n0 g0 g1 g2 g3 g4 gf0 gf1 gf2 gf3 gf4 gbl
        go_wp2
        go_roundg 7
        case measure => omega
        case rel => exact ⟨1, rfl, rfl, by omega, (hr5.trans hm6).alloc _⟩
      · have n0 : wr.cell? ⟨nb, 1, none⟩ = some (.func (.func 96) #[] #[]) := hnb5.cell 1
        go_wp2_with fail
        refine (hTN 96 (by simp) wr hm5).mono ?_
        rintro e w6 ⟨rfl, hm6⟩
        clear n0 g0 g1 g2 g3 g4 gf0 gf1 gf2 gf3 gf4 gbl
        go_wp2
        go_roundg 6
        case measure => omega
        case rel => exact ⟨2, rfl, rfl, by omega, (hr5.trans hm6).alloc _⟩
      · have n0 : wr.cell? ⟨nb, 2, none⟩ = some (.func (.func 97) #[] #[]) := hnb5.cell 2
        go_wp2_with fail
        refine (hTN 97 (by simp) wr hm5).mono ?_
        rintro e w6 ⟨rfl, hm6⟩
        clear n0 g0 g1 g2 g3 g4 gf0 gf1 gf2 gf3 gf4 gbl
        go_wp2
        go_roundg 5
        case measure => omega
        case rel => exact ⟨3, rfl, rfl, by omega, (hr5.trans hm6).alloc _⟩
      · have n0 : wr.cell? ⟨nb, 3, none⟩ = some (.func (.func 98) #[] #[]) := hnb5.cell 3
        go_wp2_with fail
        refine (hTN 98 (by simp) wr hm5).mono ?_
        rintro e w6 ⟨rfl, hm6⟩
        clear n0 g0 g1 g2 g3 g4 gf0 gf1 gf2 gf3 gf4 gbl
        go_wp2
        go_roundg 4
        case measure => omega
        case rel => exact ⟨4, rfl, rfl, by omega, (hr5.trans hm6).alloc _⟩
      · have n0 : wr.cell? ⟨nb, 4, none⟩ = some (.func (.func 99) #[] #[]) := hnb5.cell 4
        go_wp2_with fail
        refine (hTN 99 (by simp) wr hm5).mono ?_
        rintro e w6 ⟨rfl, hm6⟩
        clear n0 g0 g1 g2 g3 g4 gf0 gf1 gf2 gf3 gf4 gbl
        go_wp2
        go_roundg 3
        case measure => omega
        case rel => exact ⟨5, rfl, rfl, by omega, (hr5.trans hm6).alloc _⟩
      · have n0 : wr.cell? ⟨nb, 5, none⟩ = some (.func (.func 100) #[] #[]) := hnb5.cell 5
        go_wp2_with fail
        refine (hTN 100 (by simp) wr hm5).mono ?_
        rintro e w6 ⟨rfl, hm6⟩
        clear n0 g0 g1 g2 g3 g4 gf0 gf1 gf2 gf3 gf4 gbl
        go_wp2
        go_roundg 2
        case measure => omega
        case rel => exact ⟨6, rfl, rfl, by omega, (hr5.trans hm6).alloc _⟩
      · have n0 : wr.cell? ⟨nb, 6, none⟩ = some (.func (.func 101) #[] #[]) := hnb5.cell 6
        go_wp2_with fail
        refine (hTN 101 (by simp) wr hm5).mono ?_
        rintro e w6 ⟨rfl, hm6⟩
        clear n0 g0 g1 g2 g3 g4 gf0 gf1 gf2 gf3 gf4 gbl
        go_wp2
        go_roundg 1
        case measure => omega
        case rel => exact ⟨7, rfl, rfl, by omega, (hr5.trans hm6).alloc _⟩
      · have n0 : wr.cell? ⟨nb, 7, none⟩ = some (.func (.func 102) #[] #[]) := hnb5.cell 7
        go_wp2_with fail
        refine (hTN 102 (by simp) wr hm5).mono ?_
        rintro e w6 ⟨rfl, hm6⟩
        clear n0 g0 g1 g2 g3 g4 gf0 gf1 gf2 gf3 gf4 gbl
        go_wp2
        go_roundg 0
        case measure => omega
        case rel => exact ⟨8, rfl, rfl, by omega, (hr5.trans hm6).alloc _⟩
      · have h5 := h0.same hm5
        have hown5 := ownsRow_keep hown0 hm5 (fun _ _ x => x)
        have hO5 := hO0.keep hm5 (fun x => x)
        go_wp2_with fail
        refine (newPara_first bp g 0 cap { p with depth := 0 } T v l text 0 nl wr h5 rfl (by omega) (by omega) hs hO5 hown5).mono ?_
        rintro e w6 ⟨rfl, hpn⟩
        go_wp2
        try rw [Exit.noGoto_normal]
        go_end0
        refine ⟨rfl, ?_, ?_⟩
        · exact ((hm0.mono (fun _ _ h => Or.inl h)).then (hm5.trans (Mods.refl _ _)) (fun _ _ h => absurd h (fun x => x))).then hpn.mods (fun _ _ h => h)
        · obtain ⟨g6, cap6, bb, tv, x1, x2, x3, x4, x5, x6, x7⟩ := hpn.ex
          exact ⟨g6, cap6, bb, tv, x1, x2, x3, x4, by have := hm0.size; have := hm5.size; omega, fun hlt => x6 (by have := hm0.size; have := hm5.size; omega), fun k hk => by have := x7 k hk; have := hm0.size; have := hm5.size; omega⟩
end Go.Proofs.YtdnlfdppjfjncaaGreatDoor

/- Seven signs # are no heading. -/
namespace Go.Proofs.YtdnlfdppjfjncaaGreatDoor
open Go Go.RowKit Go.Proofs

/-- Seven # stand at place i. -/
def Seven (text : ByteArray) (i : Nat) : Prop := ∀ u, u < 7 → at0 text (i + u) = 35

theorem at0_lt {text : ByteArray} {i : Nat} {c : UInt8} (h : at0 text i = c) (hc : c ≠ 0) : ∃ hi : i < text.size, text[i] = c := by
  unfold at0 at h
  split at h
  · rename_i hi; exact ⟨hi, h⟩
  · exact absurd h.symm hc

set_option maxHeartbeats 4000000 in
theorem trimHeading_seven (b : Nat) (q : Value) (text : ByteArray) (i : Nat) (nl : Int) (w : World) (hi : i ≤ text.size) (hT : Txt text) (hL : LineAt w b i text nl)
    (h7 : Seven text (p3 text i)) :
    Calls Tryz.prog 135 #[.pointer (some ⟨b, 0, none⟩), q] w fun e w' => e = .returned (.bool false) ∧ Same w w' := by
  have hp := (p3_le hi).2
  obtain ⟨h0, h1, h2, h3, h4, hf0, hf1, hf2, hf3, hf4, hbl⟩ := hL.facts
  have H7 := Lib.hid (fun u (hu : u < 7) => at0_lt (h7 u hu) (by decide))
  clear h7
  go_enter Tryz.func135, Tryz.ntmps135
  go_wp2_with fail
  generalize hW : (w.alloc _ : World) = W
  have hm0 : Same w W := by subst hW; exact (Mods.refl _ w).alloc _
  have hl : LineAt W (w.heap.size) i text nl := by subst hW; exact Blk.newAt _ _ rfl
  clear hW h0 h1 h2 h3 h4 hf0 hf1 hf2 hf3 hf4 hbl hL
  refine (trimSpace_03 _ text i nl W hi hT hl).mono ?_
  rintro e w1 ⟨rfl, hm1, hl1⟩
  have hk : Same w w1 := hm0.then hm1 (by intro b hb; omega)
  clear hl hm0 hm1
  go_wp2_with fail
  obtain ⟨q0, q1⟩ := H7.out 0 (by omega)
  refine (trim_yes _ _ text 35 nl w1 hT.size hl1 q0 (by have : text[p3 text i] = 35 := q1; rw [this]; rfl)).mono ?_
  rintro e w2 ⟨rfl, hm2, hl2⟩
  have hk2 : Same w w2 := hk.then hm2 (by intro b hb; omega)
  clear hl1 hm2 hk q1
  generalize hP : p3 text i = P at *
  clear hP
  go_wp2_with fail
  go_loopg [6] 5 (fun g n wr => ∃ k : Nat, g = 6 - k ∧ n = .int .i64 k ∧ 1 ≤ k ∧ k ≤ 6 ∧ Same w wr ∧ LineAt wr w.heap.size (P + k) text nl)
  case atStart => exact ⟨1, rfl, rfl, by omega, by omega, hk2, hl2⟩
  case round =>
    clear hk2 hl2
    obtain ⟨k, hg, rfl, hk1, hk6, hmw, hlw⟩ := hrel
    have HG := Lib.hid hg
    clear hg
    by_cases hlt : k < 6
    · have v1 : (k : Int) < 6 := by omega
      have v3 : IntKind.i64.wrap ((k : Int) + 1) = (k : Int) + 1 := IntWalk.i64_in _ (by omega)
      obtain ⟨r0, r1⟩ := H7.out k (by omega)
      have HR := Lib.hid r1
      clear r1
      go_wp2_with fail
      refine (trim_yes _ _ text 35 nl wr hT.size hlw r0 (by rw [HR.out]; rfl)).mono ?_
      rintro e w3 ⟨rfl, hm3, hl3⟩
      go_wp2_with fail
      go_roundg (6 - (k + 1))
      case measure => have := HG.out; omega
      case rel => exact ⟨k + 1, rfl, rfl, by omega, by omega, hmw.then hm3 (by intro b hb; omega), hl3⟩
    · have v1 : ¬ (k : Int) < 6 := by omega
      have hk : k = 6 := by omega
      obtain ⟨r0, r1⟩ := H7.out 6 (by omega)
      have hr : at0 text (P + 6) ≠ 32 := by rw [at0_eq r0, r1]; decide
      have hno : ¬ text.size ≤ P + 6 := by omega
      have HR := Lib.hid hr
      clear r1 hr
      subst hk
      go_wp2_with fail
      refine (trimSpace_11 _ text (P + 6) true nl wr (by omega) hT hlw).mono ?_
      rintro e w3 (⟨hs, rfl, hm3, hl3⟩ | ⟨hs, rfl, hm3, hl3⟩)
      · exact absurd hs HR.out
      · have hd : (true && decide (text.size ≤ P + 6)) = false := by simp; omega
        rw [hd]
        clear hs hd
        go_wp2
        go_ret
        exact ⟨rfl, hmw.then hm3 (by intro b hb; omega)⟩

set_option maxHeartbeats 1000000 in
theorem newATX_seven (p : Value) (text : ByteArray) (i : Nat) (nl : Int) (w : World) (hi : i ≤ text.size) (hT : Txt text) (h7 : Seven text (p3 text i)) :
    Calls Tryz.prog 96 #[p, LV i text nl] w fun e w' => e = .returned (.tuple #[LV i text nl, .bool false]) ∧ Same w w' := by
  go_enter Tryz.func96, Tryz.ntmps96
  go_wp2_with fail
  generalize hW : ((((w.alloc _).alloc _).alloc _).alloc _ : World) = W
  have hm0 : Same w W := by subst hW; exact ((((Mods.refl _ w).alloc _).alloc _).alloc _).alloc _
  have hb : LineAt W w.heap.size i text nl := by subst hW; exact (((Blk.newAt _ _ rfl).alloc _).alloc _).alloc _
  have hr : LineAt W (w.heap.size + 1) 0 ⟨#[]⟩ 0 := by subst hW; exact ((Blk.newAt _ _ (by simp)).alloc _).alloc _
  have hl : LineAt W (w.heap.size + 1 + 1) i text nl := by subst hW; exact (Blk.newAt _ _ (by simp)).alloc _
  clear hW
  refine (trimHeading_seven _ _ text i nl W hi hT hl h7).mono ?_
  rintro e w1 ⟨rfl, hm1⟩
  have hk : Same w w1 := hm0.trans hm1
  have hb1 := Same.blk hm1 hb
  have hr1 := Same.blk hm1 hr
  obtain ⟨g0, g1, g2, g3, g4, gf0, gf1, gf2, gf3, gf4, gbl⟩ := LineAt.facts hb1
  obtain ⟨r0, r1, r2, r3, r4, rf0, rf1, rf2, rf3, rf4, rbl⟩ := LineAt.facts hr1
  clear hb hr hb1 hm1 hm0 h7 hl
  go_wp2
  exact bodyPost_ret (v := .tuple #[LV i text nl, .bool false]) (by simp [results, Tryz.results96, go_sem, r0, r1, r2, r3, r4]) rfl ⟨rfl, by
    exact hk.then ((put5 hr1 i text nl).1) (by intro b hb; omega)⟩

/-- The line begins a paragraph: no sign of a block, or seven # and more. -/
def Begins (text : ByteArray) (i : Nat) : Prop := Plain text i ∨ Seven text (p3 text i)

theorem triesNo_begins (bp g n cap : Nat) (p : PSt) (T : Nat) (v : Value) (text : ByteArray) (i : Nat) (nl : Int) (w : World) (h : NoPara w bp g n cap p T v) (hd : p.depth = n)
    (hT4 : T ≠ 242) (hi : i ≤ text.size) (hT : Txt text) (hP : Begins text i) : TriesNo w bp i text nl := by
  rcases hP with hP | h7
  · exact triesNo_first bp g n cap p T v text i nl w h hd hT4 hi hT hP
  · intro f hf W hW
    have h1 := h.same hW
    have h35 : at0 text (p3 text i) = 35 := h7 0 (by omega)
    have hc : ∀ k : Int, k ≠ 35 → ((at0 text (p3 text i)).toNat : Int) ≠ k := by
      intro k hk e; rw [h35] at e; exact hk e.symm
    have h32 : at0 text (p3 text i) ≠ 32 := by rw [h35]; decide
    have hno : ItemNo text i := by
      left
      intro k hk
      refine hc k ?_
      rintro rfl
      revert hk
      decide
    simp only [List.mem_cons, List.not_mem_nil, or_false] at hf
    rcases hf with rfl | rfl | rfl | rfl | rfl | rfl | rfl | rfl
    · exact newQuote_no _ text i nl W hi hT (hc _ (by decide))
    · exact newATX_seven _ text i nl W hi hT h7
    · exact newSetext_first bp g n cap p T v text i nl W h1 hd
    · exact newHR_no _ text i nl W hi hT (hc _ (by decide)) (hc _ (by decide)) (hc _ (by decide))
    · exact newListItem_no bp g (n + 1) cap none p T n v text i nl W h1.at_ h1.stack hd (by omega) h1.small h1.top hT4 hi hT hno
    · exact newHTML_no _ text i nl W hi hT (hc _ (by decide))
    · exact newFence_no _ text i nl W hi hT (hc _ (by decide)) (hc _ (by decide))
    · exact newPre_first bp g n cap p T v text i nl W hi hT h1 h32
end Go.Proofs.YtdnlfdppjfjncaaGreatDoor

/- (*Parser).parse of one line of plain bytes and escaped signs. -/
namespace Go.Proofs.YtdnlfdppjfjncaaGreatDoor
open Go Go.RowKit Go.Proofs

/-- The parser's options. -/
structure Off (w : World) (pp : Nat) : Prop where
  lt : pp < w.heap.size
  ex : ∃ cs, Blk w pp cs 76 ∧ (∀ k, k < 10 → cs[k]? = some (.bool false))

theorem Off.opt {w : World} {pp : Nat} (h : Off w pp) {p : PSt} (hp : p.parser = pp) (k : Nat) (hk : k < 10) : Opt w p k false := by
  obtain ⟨cs, h1, h2⟩ := h.ex
  exact ⟨cs, by rw [hp]; exact h1, h2 k hk⟩
theorem Off.same {w w' : World} {pp : Nat} (h : Off w pp) (hm : Same w w') : Off w' pp := by
  obtain ⟨cs, h1, h2⟩ := h.ex
  exact ⟨Nat.lt_of_lt_of_le h.lt hm.size, cs, hm.blk h1, h2⟩

/-- A line as FnEscaped writes it. -/
structure OneLine (s : ByteArray) : Prop where
  pos : 0 < s.size
  small : s.size ≤ 900000
  first : isW s[0] = false
  last : isW (s[s.size - 1]'(by omega)) = false
  no0 : ∀ i (hi : i < s.size), s[i] ≠ 0
  no10 : ∀ i (hi : i < s.size), s[i] ≠ 10
  no13 : ∀ i (hi : i < s.size), s[i] ≠ 13
  no91 : s[0] ≠ 91
  no9 : ∀ i (hi : i < s.size), s[i] ≠ 9
  begins : Begins s 0

theorem trimL_id {s : ByteArray} (h0 : 0 < s.size) (h : isW s[0] = false) : trimL (s.extract 0 s.size) = s := by
  have he := ext_all s
  rw [he]
  unfold trimL
  have : ws s 0 = 0 := by rw [ws, dif_pos h0, h]; rfl
  rw [this, he]
theorem blankAt_id {s : ByteArray} (h0 : 0 < s.size) (h : isW s[0] = false) : blankAt s 0 = false := by
  unfold blankAt
  rw [trimL_id h0 h]
  exact bs_ne h0

def p0 (pp : Nat) : PSt := ⟨pp, .pointer none, .map none, 0, .slice none 0 0, -1, false, ⟨#[]⟩, 0, .slice none 0 0, .slice none 0 0, .slice none 0 0⟩

/-- The parse state when the line has been read. -/
def p2 (pp g cap : Nat) : PSt := { p0 pp with lineno := 1, depth := 0, stack := .slice (some ⟨g, 0, none⟩) (0 + 2) cap }

/-- What stands of the document when both blocks are closed. -/
structure TwoClosed (w w' : World) (bp g cap pp : Nat) (s : ByteArray) : Prop where
  mods : Mods (fun k => k = bp ∨ k = g) w w'
  ex : ∃ rk pk tb tg tc ig ic, w.heap.size ≤ rk ∧ w.heap.size ≤ pk ∧ w.heap.size ≤ tb ∧
    Blk w' rk #[.int .i64 0, .int .i64 0, .slice (some ⟨ig, 0, none⟩) 1 ic, .map none] 339 ∧
    Blk w' pk #[.int .i64 1, .int .i64 1, .pointer (some ⟨tb, 0, none⟩)] 155 ∧
    Blk w' tb #[.int .i64 1, .int .i64 1, .slice none 0 0, .string s] 110 ∧
    PsAt w' bp { p2 pp g cap with texts := .slice (some ⟨tg, 0, none⟩) 1 tc, stack := .slice (some ⟨g, 0, none⟩) 0 cap, root := .pointer (some ⟨rk, 0, none⟩) } ∧
    w'.ownsRow 0 105 1 (.slice (some ⟨tg, 0, none⟩) 1 tc) 1 [.pointer (some ⟨tb, 0, none⟩)] ∧
    w'.ownsRow 0 68 1 (.slice (some ⟨ig, 0, none⟩) 1 ic) 1 [.iface 153 (.pointer (some ⟨pk, 0, none⟩))]

theorem closed_two (bp g cap bb pp : Nat) (tv : Value) (s : ByteArray) (v : Option Addr) (w : World) (hp : PsAt w bp (p2 pp g cap))
    (hown : w.ownsRow 0 121 4 (.slice (some ⟨g, 0, none⟩) (0 + 2) cap) (0 + 2) ([.iface 98 (.pointer v), .slice none 0 0, .int .i64 0, .int .i64 0] ++ [.iface 162 (.pointer (some ⟨bb, 0, none⟩)), .slice none 0 0, .int .i64 1, .int .i64 1]))
    (hB : Blk w bb #[tv, .pointer none] 166) (htv : w.ownsRow 0 9 1 tv 1 [.string s]) (hs : OneLine s) :
    Calls Tryz.prog 65 #[.pointer (some ⟨bp, 0, none⟩), .int .i64 0] w fun e w' => e = .returned (.tuple #[]) ∧ TwoClosed w w' bp g cap pp s := by
  have hs6 : s.size ≤ 1000000 := by have := hs.small; omega
  obtain ⟨gt, ct, rfl, _, _, hc⟩ := ownsRow_form htv (by omega)
  have hc0 := hc 0 _ rfl
  have hJ : ∀ W, Same w W → Calls Tryz.prog 29 #[.slice (some ⟨gt, 0, none⟩) 1 ct, .string ⟨#[10]⟩] W fun e W' => e = .returned (.string s) ∧ Same W W' := fun W hW =>
    (join_one gt ct s ⟨#[10]⟩ W ((World.cell?_of_block (hW.block gt (World.block_lt_of_cell? _ _ hc0) (fun x => x))).trans hc0)).mono fun e W' ⟨h1, h2⟩ => ⟨h1, by rw [← h2]; exact Mods.refl _ _⟩
  have h91 := hs.no91
  have h10 := hs.no10 0 hs.pos
  have h9 := hs.no9 0 hs.pos
  have h32 : s[0]'hs.pos ≠ 32 := by intro h; have := hs.first; rw [h] at this; cases this
  have hcl := closePara bp bb g 0 cap 0 0 (p2 pp g cap) [] [] [] (.iface 98 (.pointer v)) (.slice none 0 0) (.slice none 0 0) _ 0 0 1 1 1 s w hp rfl (by omega) hown ⟨rfl, Or.inl ⟨rfl, rfl⟩⟩ (by omega) hB ⟨_, _, rfl⟩ (by omega)
    ⟨rfl, Or.inl ⟨rfl, rfl⟩⟩ (by omega) hJ hs.pos hs6 h32 h9 h10 h91 (by omega) (by omega)
  have hgen := trimStack_gen bp 0 (fun k W => match k with
    | 2 => W = w
    | 1 => ∃ u, ParaClosed w W bp g 0 cap 0 0 (p2 pp g cap) [] [] [] (.iface 98 (.pointer v)) (.slice none 0 0) 0 0 1 (1 + (1 : Nat) - 1) s u
    | 0 => TwoClosed w W bp g cap pp s
    | _ => False) (by omega) ?_ ?_ 2 w rfl
  · exact hgen
  · intro k W hP
    match k, hP with
    | 2, hP => subst hP; exact ⟨by omega, _, _, hp.stack⟩
    | 1, ⟨u, hPC⟩ =>
      obtain ⟨pk, tb, tg, tc, ig, ic, _, _, _, _, _, h, _⟩ := hPC.ex
      exact ⟨by omega, _, _, h.stack⟩
    | 0, hP =>
      obtain ⟨rk, pk, tb, tg, tc, ig, ic, _, _, _, _, _, _, h, _⟩ := hP.ex
      exact ⟨by omega, _, _, h.stack⟩
  · intro k W hP
    match k, hP with
    | 1, hP => subst hP; exact hcl.mono fun e w' ⟨v1, h1, h2⟩ => ⟨v1, h1, v1, h2⟩
    | 0, ⟨u, hPC⟩ =>
      obtain ⟨pk, tb, tg, tc, ig, ic, _, hpk, htb, hPb, hTb, hps, htx, hrow, hin⟩ := hPC.ex
      refine (closeRoot bp g cap _ v (some ⟨ig, 0, none⟩) 1 ic none 0 0 W hps rfl hrow rfl).mono ?_
      rintro e W' ⟨u', rfl, hm, rk, hrk, hR, hps'⟩
      have h1 := hPC.mods.size
      have hne : ∀ {b : Nat} {cs : Array Value} {T : Nat}, Blk W b cs T → T ≠ 95 → ¬ (b = bp) := fun h hT => by
        obtain ⟨tail, htl⟩ := id hps
        exact h.ne_of_type htl hT
      refine ⟨u', rfl, ?_, rk, pk, tb, tg, tc, ig, ic, by omega, hpk, htb, hR, hPb.keep hm (hne hPb (by decide)), hTb.keep hm (hne hTb (by decide)), hps', ?_, ?_⟩
      · refine (hPC.mods.mono (fun k _ h => ?_)).trans (hm.mono (fun _ _ h => Or.inl h))
        rcases h with h | h | h | h
        · exact Or.inl h
        · exact Or.inr h
        · cases h
        · cases h
      · exact ownsRow_keep htx hm (fun k hk x => own_ne_ps htx hps (by decide) (by rw [← x]; exact hk))
      · exact ownsRow_keep hin hm (fun k hk x => own_ne_ps hin hps (by decide) (by rw [← x]; exact hk))

/-- The document of one paragraph of one line. -/
structure DocAt (w w' : World) (bp rk pp : Nat) (s : ByteArray) (all : List Pc) : Prop where
  mods : Same w w'
  ps : ∃ q : PSt, PsAt w' bp q ∧ q.root = .pointer (some ⟨rk, 0, none⟩)
  ex : ∃ pk tb ig ic gl n lc xs x y x2 y2, Blk w' rk #[.int .i64 x, .int .i64 y, .slice (some ⟨ig, 0, none⟩) 1 ic, .map none] 339 ∧
    w'.ownsRow 0 68 1 (.slice (some ⟨ig, 0, none⟩) 1 ic) 1 [.iface 153 (.pointer (some ⟨pk, 0, none⟩))] ∧
    Blk w' pk #[.int .i64 x2, .int .i64 y2, .pointer (some ⟨tb, 0, none⟩)] 155 ∧
    Blk w' tb #[.int .i64 x2, .int .i64 y2, .slice (some ⟨gl, 0, none⟩) n lc, .string s] 110 ∧
    0 < n ∧ n ≤ s.size + 1 ∧ w'.ownsRow 0 132 1 (.slice (some ⟨gl, 0, none⟩) n lc) n xs ∧ PcsAt w' xs (all)

theorem DocAt.same {w w1 w2 : World} {bp rk pp : Nat} {s : ByteArray} {all : List Pc} (h : DocAt w w1 bp rk pp s all) (hm : Same w1 w2) : DocAt w w2 bp rk pp s all := by
  obtain ⟨h1, ⟨q, hq, hq1⟩, pk, tb, ig, ic, gl, n, lc, xs, x, y, x2, y2, a1, a2, a3, a4, a5, a6, a7, a8⟩ := h
  exact ⟨h1.trans hm, ⟨q, hq.same hm, hq1⟩, pk, tb, ig, ic, gl, n, lc, xs, x, y, x2, y2, hm.blk a1, ownsRow_keep a2 hm (fun _ _ x => x), hm.blk a3, hm.blk a4, a5, a6, ownsRow_keep a7 hm (fun _ _ x => x), a8.keep hm (fun _ _ _ _ _ x => x)⟩

theorem docAt_mk {w w3 w4 : World} {x y x2 y2 : Int} {bp rk pk tb ig ic gl n lc pp : Nat} {q q1 : PSt} {s : ByteArray} {xs : List Value} {all : List Pc} (hm : Same w w3) (hbp : w.heap.size ≤ bp) (htb : w.heap.size ≤ tb) (hps : PsAt w3 bp q)
    (hR : Blk w3 rk #[.int .i64 x, .int .i64 y, .slice (some ⟨ig, 0, none⟩) 1 ic, .map none] 339) (hPk : Blk w3 pk #[.int .i64 x2, .int .i64 y2, .pointer (some ⟨tb, 0, none⟩)] 155)
    (hT : Blk w3 tb #[.int .i64 x2, .int .i64 y2, .slice none 0 0, .string s] 110) (hin : w3.ownsRow 0 68 1 (.slice (some ⟨ig, 0, none⟩) 1 ic) 1 [.iface 153 (.pointer (some ⟨pk, 0, none⟩))])
    (hH : Held w3 w4 bp q1 s s.size n (.slice (some ⟨gl, 0, none⟩) n lc) xs (all)) (hn0 : 0 < n) (hn1 : n ≤ s.size + 1) (hq1 : q1.root = .pointer (some ⟨rk, 0, none⟩)) :
    DocAt w (w4.setCell ⟨tb, 2, none⟩ (.slice (some ⟨gl, 0, none⟩) n lc)) bp rk pp s all := by
  obtain ⟨tail, htl⟩ := id hps
  have hT4 := hT.keep1 hH.mods (hT.ne_of_type htl (by decide))
  have hm5 : Mods (fun k => k = tb) w4 (w4.setCell ⟨tb, 2, none⟩ (.slice (some ⟨gl, 0, none⟩) n lc)) := (Mods.refl (fun k => k = tb) w4).setCell (p := ⟨tb, 2, none⟩) (fun _ => rfl) _
  have hin4 := ownsRow_keep hin hH.mods (fun k hk x => own_ne_ps hin hps (by decide) (by rw [← x]; exact hk))
  have hne : ∀ {b : Nat} {cs : Array Value} {T : Nat}, Blk w4 b cs T → T ≠ 110 → b ≠ tb := fun h hT => h.ne_of_type hT4 hT
  refine ⟨?_, ⟨_, hH.at_.set_other (a := ⟨tb, 2, none⟩) (hT.ne_of_type htl (by decide)) _, hq1⟩, pk, tb, ig, ic, gl, n, lc, xs, x, y, x2, y2, ?_, ?_, ?_, hT4.set_same 2 _, hn0, hn1, ?_, ?_⟩
  · exact (hm.then hH.mods (fun b hb h => by omega)).then hm5 (fun b hb h => by omega)
  · exact (hR.keep1 hH.mods (hR.ne_of_type htl (by decide))).keep1 hm5 (hne (hR.keep1 hH.mods (hR.ne_of_type htl (by decide))) (by decide))
  · exact ownsRow_keep hin4 hm5 (fun k hk x => own_ne hin4 hT4 (by decide) (by rw [← x]; exact hk))
  · exact (hPk.keep1 hH.mods (hPk.ne_of_type htl (by decide))).keep1 hm5 (hne (hPk.keep1 hH.mods (hPk.ne_of_type htl (by decide))) (by decide))
  · exact ownsRow_keep hH.row hm5 (fun k hk x => own_ne hH.row hT4 (by decide) (by rw [← x]; exact hk))
  · exact hH.pcs.keep hm5 (fun b cs T hb hTT x => by
      refine hne hb ?_ x
      exact hTT.ne (by decide) (by decide) (by decide) (by decide) (by decide))

set_option maxRecDepth 100000 in
set_option maxHeartbeats 8000000 in
theorem parse_line (pp : Nat) (s : ByteArray) (w : World) (hs : OneLine s) (all : List Pc) (hg : Plan s 0 0 all) (hO : Off w pp) :
    Calls Tryz.prog 51 #[.pointer (some ⟨pp, 0, none⟩), .string s] w fun e w' => ∃ bp rk c, e = .returned (.tuple #[.pointer (some ⟨rk, 0, none⟩), .bool c]) ∧ DocAt w w' bp rk pp s all := by
  have hs6 : s.size ≤ 1000000 := by have := hs.small; omega
  have i0 := idx1_none hs.no0
  have i10 := idx1_none hs.no10
  have i13 := idx1_none hs.no13
  go_enter Tryz.func51, Tryz.ntmps51
  go_wp2_with fail
  refine (zzContains_any s 0 _ hs6).mono ?_
  rintro e w' ⟨rfl, rfl⟩
  rw [i0]
  generalize hW : (World.alloc _ _ : World) = W
  have hm0 : Same w W := by subst hW; exact (Mods.refl _ w).alloc _
  have hp0 : PsAt W w.heap.size { p0 pp with depth := 0 } := by
    subst hW
    exact ⟨Tryz.zeroCells95.toList.drop 12, Blk.newAt _ _ rfl⟩
  clear hW
  generalize hbp : w.heap.size = bp at *
  have hO0 := hO.same hm0
  have k5 := hp0.depth
  have f5 := hp0.fr 5
  have hbl := hp0.lt
  go_wp2_with fail
  generalize hX : (World.alloc (World.setCell _ _ _) _ : World) = X
  have hmX : Same w X := by
    subst hX
    exact (hm0.setCell (p := ⟨bp, 5, none⟩) (fun h => absurd h (Nat.not_lt.2 (Nat.le_of_eq hbp))) _).alloc _
  have hpX : PsAt X bp (p0 pp) := by
    subst hX
    exact PsAt.alloc (hp0.set 5 (.int .i64 (-1)) (p0 pp) rfl (by decide)) _
  clear hX
  refine (addBlock_any bp 0 0 none (p0 pp) _ (.pointer (some ⟨W.heap.size, 0, none⟩)) [] (-1) X hpX rfl (by omega) rfl rfl ⟨rfl, Or.inl ⟨rfl, rfl⟩⟩ (fun g h => by cases h) rfl).mono ?_
  rintro e w1 ⟨rfl, hm1, g, cap, hp1, hown1, hgl1⟩
  have hmw1 : Same w w1 := hmX.then hm1 (fun b hb h => by
    rcases h with h | h
    · omega
    · cases h)
  have e0 : s.toList.isEmpty = false := bs_ne hs.pos
  have e0' : (!s.toList.isEmpty) = true := by rw [e0]; rfl
  clear k5 f5 hbl
  go_wp2_with fail
  go_loopg [1] 1 (fun k v1 wr => (k = 1 ∧ v1 = .string s ∧ wr = w1) ∨ (k = 0 ∧ v1 = .string ⟨#[]⟩ ∧ ParaNew w1 wr bp { p0 pp with lineno := 1, stack := .slice (some ⟨g, 0, none⟩) 1 cap, depth := 0 } 0 [.iface 98 (.pointer (some ⟨W.heap.size, 0, none⟩)), .slice none 0 0, .int .i64 0, .int .i64 0] s))
  case atStart => exact Or.inl ⟨rfl, rfl, rfl⟩
  case round =>
    rcases hrel with ⟨rfl, rfl, rfl⟩ | ⟨rfl, rfl, hPN⟩
    · go_wp2_with fail
      refine (zzIndex_any s 10 _ hs6).mono ?_
      rintro e w' ⟨rfl, rfl⟩
      rw [i10]
      go_wp2_with fail
      refine (zzIndex_any s 13 _ hs6).mono ?_
      rintro e w' ⟨rfl, rfl⟩
      rw [i13]
      have k3 : wr.cell? ⟨bp, 3, none⟩ = some (.int .i64 0) := hp1.lineno
      have f3 := hp1.fr 3
      have hbl := hp1.lt
      go_wp2_with fail
      generalize hY : (World.setCell wr _ _ : World) = Y
      have hmY : Mods (fun k => k = bp) wr Y := by subst hY; exact (Mods.refl (fun k => k = bp) wr).setCell (p := ⟨bp, 3, none⟩) (fun _ => rfl) _
      have hpY : PsAt Y bp { p0 pp with lineno := 1, stack := .slice (some ⟨g, 0, none⟩) 1 cap } := by subst hY; exact hp1.set 3 _ _ rfl (by decide)
      clear hY k3 f3 hbl
      have hownY := ownsRow_keep hown1 hmY (fun k hk x => own_ne_ps hown1 hp1 (by decide) (by rw [← x]; exact hk))
      have hOY := (hO.same hmw1)
      have hppb : pp ≠ bp := by have := hO.lt; omega
      have hOYo : Opt Y { p0 pp with lineno := 1, stack := .slice (some ⟨g, 0, none⟩) 1 cap } 5 false := (hOY.opt rfl 5 (by omega)).keep hmY hppb
      have hNP : NoPara Y bp g 0 cap { p0 pp with lineno := 1, stack := .slice (some ⟨g, 0, none⟩) 1 cap } 98 (.pointer (some ⟨W.heap.size, 0, none⟩)) :=
        ⟨hpY, rfl, by omega, (row_cells (n := 0) (l := []) hownY).1, by decide⟩
      refine (addLine_first bp g cap _ _ _ _ s 0 Y hNP hs6 (blankAt_id hs.pos hs.first) hOYo hownY hppb (fun V hV => triesNo_begins bp g 0 cap _ _ _ s 0 0 V hV rfl (by decide) (Nat.zero_le _) ⟨hs6, hs.no9⟩ hs.begins)).mono ?_
      rintro e w2 ⟨rfl, hPN⟩
      rw [trimL_id hs.pos hs.first] at hPN
      go_wp2_with fail
      go_roundg 0
      case measure => omega
      case rel => exact Or.inr ⟨rfl, rfl, ⟨(hmY.mono (fun _ _ h => Or.inl h)).trans hPN.mods, by obtain ⟨g', c', bb, tv, a1, a2, a3, a4, a5, a6, a7⟩ := hPN.ex; exact ⟨g', c', bb, tv, a1, a2, a3, a4, Nat.le_trans hmY.size a5, fun hlt => a6 (Nat.lt_of_lt_of_le hlt hmY.size), fun k hk => Nat.le_trans hmY.size (a7 k hk)⟩⟩⟩
    · go_wp2_with fail
      obtain ⟨hm2, g2, cap2, bb, tv, hp2, hown2, hB2, htv2, hbb, hg2, _⟩ := hPN
      refine (closed_two bp g2 cap2 bb pp tv s (some ⟨W.heap.size, 0, none⟩) wr hp2 hown2 hB2 htv2 hs).mono ?_
      rintro e w3 ⟨rfl, hTw⟩
      have hXs := hmX.size
      have hgw : w.heap.size ≤ g := by
        by_cases h : g < X.heap.size
        · cases hgl1 h
        · omega
      have hg2w : w.heap.size ≤ g2 := by
        by_cases h : g2 < w1.heap.size
        · have := hg2 h
          cases this
          exact hgw
        · have := hmw1.size; omega
      have hmw2 : Same w wr := hmw1.then hm2 (fun b hb h => by
        rcases h with h | h
        · omega
        · have hh : g = b := Option.some.inj h
          omega)
      have hmw3 : Same w w3 := hmw2.then hTw.mods (fun b hb h => by omega)
      have hrs := hmw2.size
      obtain ⟨rk, pk, tb, tg, tc, ig, ic, hrk, hpk, htb, hR, hPk, hT, hps, htx, hin⟩ := hTw.ex
      clear hp1 hown1 hgl1 hm1 hpX hmX hp0 hm0 hown2 hB2 htv2 hp2 hTw
      have k11 := hps.texts
      go_wp2_with fail
      go_loopg [83] 1 (fun k v83 wr2 => (k = 1 ∧ v83 = .int .i64 0 ∧ wr2 = w3) ∨ (k = 0 ∧ v83 = .int .i64 1 ∧ DocAt w wr2 bp rk pp s all))
      case atStart => exact Or.inl ⟨rfl, rfl, rfl⟩
      case round =>
        rcases hrel with ⟨rfl, rfl, rfl⟩ | ⟨rfl, rfl, hDA⟩
        · obtain ⟨_, _, he, _, _, hc⟩ := ownsRow_form htx (by omega)
          cases he
          have t0 := hc 0 _ rfl
          have r3 := hT.cell 3
          go_wp2_with fail
          have hOw : Opt wr _ 3 false := (hO.same hmw3).opt (p := { p2 pp g2 cap2 with texts := .slice (some ⟨tg, 0, none⟩) 1 tc, stack := .slice (some ⟨g2, 0, none⟩) 0 cap2, root := .pointer (some ⟨rk, 0, none⟩) }) rfl 3 (by omega)
          refine (inline_any bp _ s wr hps hs.small hs.pos all hg hOw (by have := hO.lt; show pp ≠ bp; omega) (trimSpaceTab_id s wr hs6 hs.pos hs.first hs.last)).mono ?_
          rintro e w4 ⟨gl, n, lc, xs, rfl, hn0, hn1, c4, hH⟩
          have hTne : tb ≠ bp := by
            obtain ⟨tail, htl⟩ := id hps
            exact hT.ne_of_type htl (by decide)
          have hT4 := hT.keep1 hH.mods hTne
          have c2 : w4.cell? ⟨tb, 2, none⟩ = some (.slice none 0 0) := hT4.cell 2
          have f2 := hT4.fr 2
          have l2 := hT4.lt
          go_wp2_with fail
          go_roundg 0
          case measure => omega
          case rel => exact Or.inr ⟨rfl, rfl, docAt_mk hmw3 (by omega) (by omega) hps hR hPk hT hin hH hn0 hn1 rfl⟩
        · have hoff := (hO.same hDA.mods).opt (p := p0 pp) rfl 2 (by omega)
          have o2 : wr.cell? ⟨pp, 2, none⟩ = some (.bool false) := hoff.cell
          obtain ⟨q, hq, hq1⟩ := id hDA.ps
          have k1 := hq.root
          have k6 := hq.corner
          rw [hq1] at k1
          go_wp2_with fail
          go_quiet (fail)
          go_wp2_with fail
          go_ret2
          exact ⟨bp, rk, _, rfl, hDA.same ((Mods.refl _ wr).drewN nq)⟩

theorem parser_Parse (pp : Nat) (s : ByteArray) (w : World) (hs : OneLine s) (all : List Pc) (hg : Plan s 0 0 all) (hO : Off w pp) :
    Calls Tryz.prog 39 #[.pointer (some ⟨pp, 0, none⟩), .string s] w fun e w' => ∃ bp rk, e = .returned (.pointer (some ⟨rk, 0, none⟩)) ∧ DocAt w w' bp rk pp s all := by
  go_enter Tryz.func39, Tryz.ntmps39
  go_wp2_with fail
  refine (parse_line pp s w hs all hg hO).mono ?_
  rintro e w' ⟨bp, rk, c, rfl, hD⟩
  go_wp2_with fail
  go_ret
  exact ⟨bp, rk, rfl, hD⟩
end Go.Proofs.YtdnlfdppjfjncaaGreatDoor

/- impl.parser; the table of the HTML escaper; Document, Paragraph and Text to HTML. -/
namespace Go.Proofs.YtdnlfdppjfjncaaGreatDoor
open Go Go.RowKit Go.Proofs

/-- The table of the escaper, as it lies in memory. -/
def escCells : Array Value := #[.string ⟨#[34]⟩, .string ⟨#[38, 113, 117, 111, 116, 59]⟩, .string ⟨#[38]⟩, .string ⟨#[38, 97, 109, 112, 59]⟩, .string ⟨#[60]⟩, .string ⟨#[38, 108, 116, 59]⟩, .string ⟨#[62]⟩, .string ⟨#[38, 103, 116, 59]⟩]

theorem htmlEscaper_any (w : World) :
    Calls Tryz.prog 265 #[] w fun e w' => e = .returned (.slice (some ⟨w.heap.size, 0, none⟩) 8 8) ∧ w' = w.alloc (.cells escCells 9) := by
  go_enter Tryz.func265, Tryz.ntmps265
  go_wp2_with fail
  go_ret
  exact ⟨rfl, rfl⟩

/-- What escaping makes of one byte. -/
def escB (c : UInt8) : List UInt8 := if c = 34 then [38, 113, 117, 111, 116, 59] else if c = 38 then [38, 97, 109, 112, 59] else if c = 60 then [38, 108, 116, 59] else if c = 62 then [38, 103, 116, 59] else [c]

theorem impl_parser (w : World) :
    Calls Tryz.prog 38 #[.agg #[.bool false, .bool false, .bool false, .bool false, .bool false, .bool false, .bool false, .bool false, .bool false, .bool false]] w fun e w' => ∃ pp, e = .returned (.pointer (some ⟨pp, 0, none⟩)) ∧ Same w w' ∧ w.heap.size ≤ pp ∧ Off w' pp := by
  go_enter Tryz.func38, Tryz.ntmps38
  go_wp2_with fail
  go_ret
  refine ⟨w.heap.size + 1, rfl, ((Mods.refl _ w).alloc _).alloc _, by omega, ⟨by simp, _, Blk.newAt (n := w.heap.size + 1) _ _ (by simp), fun k hk => ?_⟩⟩
  have : k = 0 ∨ k = 1 ∨ k = 2 ∨ k = 3 ∨ k = 4 ∨ k = 5 ∨ k = 6 ∨ k = 7 ∨ k = 8 ∨ k = 9 := by omega
  rcases this with rfl | rfl | rfl | rfl | rfl | rfl | rfl | rfl | rfl | rfl <;> rfl
end Go.Proofs.YtdnlfdppjfjncaaGreatDoor

/-
  DERIVED: THE SHELF's CONTRACTS AT THIS DUMP, IN PLAIN WORDS (tools/lay-plain.mjs out of 'TryzShelf.lean', which tools/lay-shelf.mjs wrote): THE SAME DECLARATIONS UNDER THE SAME NAMES: 'import', 'namespace', 'open', 'def', 'theorem' AND NOTHING ELSE: no command of the shelf's: FOR A HAND-IN. Each laying: the table of numbers ('.._ren') and one theorem, a field a fact of the dump's own or the kernel's comparison; each contract: ONE APPLICATION.
-/
namespace Go.Proofs
open Go.Shelf
def Tryz.lays170_ren : Go.Shelf.Ren := ⟨fun | 170 => 48 | n => n, fun | 70 => 53 | 3 => 3 | 0 => 0 | 72 => 55 | 37 => 35 | 5 => 5 | n => n, fun | n => n⟩
theorem Tryz.lays170 : Go.Proofs.Lays.n170 Tryz.prog Tryz.lays170_ren := {
  mixed := by kernel_rfl
  f170 := Tryz.func48.trans (congrArg some (by kernel_rfl))
  t0 := Tryz.underlying0
  a0 := Tryz.isAgg0
  z0 := Tryz.sizeOf0
  v0 := Tryz.zeroValue0
  t3 := Tryz.underlying3
  a3 := Tryz.isAgg3
  z3 := Tryz.sizeOf3
  v3 := Tryz.zeroValue3
  t37 := Tryz.underlying35
  a37 := Tryz.isAgg35
  z37 := Tryz.sizeOf35
  v37 := Tryz.zeroValue35
  t70 := Tryz.underlying53
  a70 := Tryz.isAgg53
  z70 := Tryz.sizeOf53
  v70 := Tryz.zeroValue53
  t72 := Tryz.underlying55
  a72 := Tryz.isAgg55
  z72 := Tryz.sizeOf55
  v72 := Tryz.zeroValue55 }
open Go.RowKit in
/-- (*strings.Builder).Len: "Len returns the number of accumulated bytes; b.Len() == len(b.String()).": the world is as it was. (LAID: no walk: one application.) -/
theorem Tryz.Builder_Len (B b : Nat) (bs : List Value) (w : World) (h : Lib.IsBuilder 55 5 B b bs w) :
    Calls Tryz.prog 48 #[.pointer (some ⟨b, 0, none⟩)] w fun e w' => e = .returned (.int .i64 bs.length) ∧ w' = w := Any.Builder_Len Tryz.lays170 B b bs w h
def Tryz.lays169_ren : Go.Shelf.Ren := ⟨fun | 169 => 43 | n => n, fun | 70 => 53 | 9 => 9 | 0 => 0 | 72 => 55 | 37 => 35 | 127 => 79 | 3 => 3 | 5 => 5 | n => n, fun | n => n⟩
theorem Tryz.lays169 : Go.Proofs.Lays.n169 Tryz.prog Tryz.lays169_ren := {
  mixed := by kernel_rfl
  f169 := Tryz.func43.trans (congrArg some (by kernel_rfl))
  t0 := Tryz.underlying0
  a0 := Tryz.isAgg0
  z0 := Tryz.sizeOf0
  v0 := Tryz.zeroValue0
  t3 := Tryz.underlying3
  a3 := Tryz.isAgg3
  z3 := Tryz.sizeOf3
  v3 := Tryz.zeroValue3
  t9 := Tryz.underlying9
  a9 := Tryz.isAgg9
  z9 := Tryz.sizeOf9
  v9 := Tryz.zeroValue9
  t37 := Tryz.underlying35
  a37 := Tryz.isAgg35
  z37 := Tryz.sizeOf35
  v37 := Tryz.zeroValue35
  t70 := Tryz.underlying53
  a70 := Tryz.isAgg53
  z70 := Tryz.sizeOf53
  v70 := Tryz.zeroValue53
  t72 := Tryz.underlying55
  a72 := Tryz.isAgg55
  z72 := Tryz.sizeOf55
  v72 := Tryz.zeroValue55
  t127 := Tryz.underlying79
  a127 := Tryz.isAgg79
  z127 := Tryz.sizeOf79
  v127 := Tryz.zeroValue79 }
theorem Tryz.Builder_Extra_169 : Builder.Extra Tryz.prog Tryz.lays169_ren := {
  sizeBuilder := by kernel_rfl
  liesBuilder := by kernel_rfl
  t5 := Tryz.underlying5
  a5 := Tryz.isAgg5
  z5 := Tryz.sizeOf5
  v5 := Tryz.zeroValue5
  infoByte := by kernel_rfl
  cellsByte := by kernel_rfl
  sizeByte := by kernel_rfl
  neB5 := by decide }
open Go.RowKit in
/-- (*strings.Builder).String: "String returns the accumulated string.": OF A BUILDER THAT HOLDS AT LEAST ONE BYTE. ✋ THE MODEL FREEZES THOSE BYTES IN THE BUFFER (unsafe.String): a later write INTO them ends the model's run without an answer; a later append BEHIND them goes on. The statement's order of evaluation is drawn: one draw. (LAID: no walk: one application.) -/
theorem Tryz.Builder_String (B b : Nat) (l : List UInt8) (w : World) (h : Lib.IsBuilder 55 5 B b (Lib.byteCells l) w) (h0 : l ≠ []) :
    Calls Tryz.prog 43 #[.pointer (some ⟨b, 0, none⟩)] w fun e w' => e = .returned (.string ⟨l.toArray⟩) ∧ Below B w w' := Any.Builder_String Tryz.lays169 Tryz.Builder_Extra_169 B b l w h h0
open Go.RowKit in
/-- (*strings.Builder).String OF A BUILDER THAT HOLDS NO BYTE: the empty string. (Its buffer is nil, or a row of which it has taken nothing yet; where that row has NO capacity the model lays one new block for unsafe.SliceData's 'some address'.) One draw. (LAID: no walk: one application.) -/
theorem Tryz.Builder_String_empty (B b : Nat) (w : World) (h : Lib.IsBuilder 55 5 B b [] w) (hBw : B ≤ w.heap.size) :
    Calls Tryz.prog 43 #[.pointer (some ⟨b, 0, none⟩)] w fun e w' => e = .returned (.string ⟨#[]⟩) ∧ Below B w w' := Any.Builder_String_empty Tryz.lays169 Tryz.Builder_Extra_169 B b w h hBw
open Go.RowKit in
/-- (*strings.Builder).String: "String returns the accumulated string.": WHATEVER THE BUILDER HOLDS. (LAID: no walk: one application.) -/
theorem Tryz.Builder_String_any (B b : Nat) (l : List UInt8) (w : World) (h : Lib.IsBuilder 55 5 B b (Lib.byteCells l) w) (hBw : B ≤ w.heap.size) :
    Calls Tryz.prog 43 #[.pointer (some ⟨b, 0, none⟩)] w fun e w' => e = .returned (.string ⟨l.toArray⟩) ∧ Below B w w' := Any.Builder_String_any Tryz.lays169 Tryz.Builder_Extra_169 B b l w h hBw
def Tryz.lays241_ren : Go.Shelf.Ren := ⟨fun | 241 => 58 | 277 => 69 | n => n, fun | 70 => 53 | 3 => 3 | 0 => 0 | 72 => 55 | 37 => 35 | 5 => 5 | n => n, fun | n => n⟩
theorem Tryz.lays241 : Go.Proofs.Lays.n241 Tryz.prog Tryz.lays241_ren := {
  mixed := by kernel_rfl
  f241 := Tryz.func58.trans (congrArg some (by kernel_rfl))
  f277 := Tryz.func69.trans (congrArg some (by kernel_rfl))
  t0 := Tryz.underlying0
  a0 := Tryz.isAgg0
  z0 := Tryz.sizeOf0
  v0 := Tryz.zeroValue0
  t3 := Tryz.underlying3
  a3 := Tryz.isAgg3
  z3 := Tryz.sizeOf3
  v3 := Tryz.zeroValue3
  t37 := Tryz.underlying35
  a37 := Tryz.isAgg35
  z37 := Tryz.sizeOf35
  v37 := Tryz.zeroValue35
  t70 := Tryz.underlying53
  a70 := Tryz.isAgg53
  z70 := Tryz.sizeOf53
  v70 := Tryz.zeroValue53
  t72 := Tryz.underlying55
  a72 := Tryz.isAgg55
  z72 := Tryz.sizeOf55
  v72 := Tryz.zeroValue55 }
theorem Tryz.Builder_Extra_241 : Builder.Extra Tryz.prog Tryz.lays241_ren := {
  sizeBuilder := by kernel_rfl
  liesBuilder := by kernel_rfl
  t5 := Tryz.underlying5
  a5 := Tryz.isAgg5
  z5 := Tryz.sizeOf5
  v5 := Tryz.zeroValue5
  infoByte := by kernel_rfl
  cellsByte := by kernel_rfl
  sizeByte := by kernel_rfl
  neB5 := by decide }
open Go.RowKit in
/-- (*strings.Builder).grow (no doc but "grow copies the buffer to a new, larger buffer so that there are at least n bytes of capacity beyond len(b.buf)."): AT A BUILDER WITHOUT A BUFFER: a new row of whatever bytes for its buffer, none of them its own yet. Three draws. (LAID: no walk: one application.) -/
theorem Tryz.Builder_grow_fresh (B b n : Nat) (w : World) (hB : B ≤ b) (hbk : w.heap[b]? = some (.cells #[.pointer (some ⟨b, 0, none⟩), .slice none 0 0] 55 (0, 0))) (hBw : B ≤ w.heap.size) (hn : n ≤ 281474976710656) :
    Calls Tryz.prog 58 #[.pointer (some ⟨b, 0, none⟩), .int .i64 n] w fun e w' => e = .returned (.tuple #[]) ∧ (Lib.BuilderAt 55 5 B b (.pointer (some ⟨b, 0, none⟩)) [] w' ∧ Below B w w') := Any.Builder_grow_fresh Tryz.lays241 Tryz.Builder_Extra_241 B b n w hB hbk hBw hn
def Tryz.lays165_ren : Go.Shelf.Ren := ⟨fun | 165 => 46 | 240 => 54 | 241 => 58 | 276 => 68 | 277 => 69 | n => n, fun | 70 => 53 | 3 => 3 | 0 => 0 | 4 => 4 | 9 => 9 | 20 => 20 | 72 => 55 | 37 => 35 | 164 => 113 | 5 => 5 | n => n, fun | n => n⟩
theorem Tryz.lays165 : Go.Proofs.Lays.n165 Tryz.prog Tryz.lays165_ren := {
  mixed := by kernel_rfl
  f165 := Tryz.func46.trans (congrArg some (by kernel_rfl))
  f240 := Tryz.func54.trans (congrArg some (by kernel_rfl))
  f241 := Tryz.func58.trans (congrArg some (by kernel_rfl))
  f276 := Tryz.func68.trans (congrArg some (by kernel_rfl))
  f277 := Tryz.func69.trans (congrArg some (by kernel_rfl))
  t0 := Tryz.underlying0
  a0 := Tryz.isAgg0
  z0 := Tryz.sizeOf0
  v0 := Tryz.zeroValue0
  t3 := Tryz.underlying3
  a3 := Tryz.isAgg3
  z3 := Tryz.sizeOf3
  v3 := Tryz.zeroValue3
  t4 := Tryz.underlying4
  a4 := Tryz.isAgg4
  z4 := Tryz.sizeOf4
  v4 := Tryz.zeroValue4
  t9 := Tryz.underlying9
  a9 := Tryz.isAgg9
  z9 := Tryz.sizeOf9
  v9 := Tryz.zeroValue9
  t20 := Tryz.underlying20
  a20 := Tryz.isAgg20
  z20 := Tryz.sizeOf20
  v20 := Tryz.zeroValue20
  t37 := Tryz.underlying35
  a37 := Tryz.isAgg35
  z37 := Tryz.sizeOf35
  v37 := Tryz.zeroValue35
  t70 := Tryz.underlying53
  a70 := Tryz.isAgg53
  z70 := Tryz.sizeOf53
  v70 := Tryz.zeroValue53
  t72 := Tryz.underlying55
  a72 := Tryz.isAgg55
  z72 := Tryz.sizeOf55
  v72 := Tryz.zeroValue55
  t164 := Tryz.underlying113
  a164 := Tryz.isAgg113
  z164 := Tryz.sizeOf113
  v164 := Tryz.zeroValue113 }
theorem Tryz.Builder_Extra_165 : Builder.Extra Tryz.prog Tryz.lays165_ren := {
  sizeBuilder := by kernel_rfl
  liesBuilder := by kernel_rfl
  t5 := Tryz.underlying5
  a5 := Tryz.isAgg5
  z5 := Tryz.sizeOf5
  v5 := Tryz.zeroValue5
  infoByte := by kernel_rfl
  cellsByte := by kernel_rfl
  sizeByte := by kernel_rfl
  neB5 := by decide }
open Go.RowKit in
/-- (*strings.Builder).Grow AT A BUILDER THAT HAS NOT BEEN WRITTEN ('var b strings.Builder; b.Grow(n)'): "Grow grows b's capacity, if necessary, to guarantee space for another n bytes.": it holds no byte behind it as before it. (LAID: no walk: one application.) -/
theorem Tryz.Builder_Grow_fresh (B b n : Nat) (w : World) (hB : B ≤ b) (hbk : w.heap[b]? = some (.cells #[.pointer none, .slice none 0 0] 55 (0, 0))) (hBw : B ≤ w.heap.size) (hn : n ≤ 281474976710656) :
    Calls Tryz.prog 46 #[.pointer (some ⟨b, 0, none⟩), .int .i64 n] w fun e w' => e = .returned (.tuple #[]) ∧ (Lib.BuilderAt 55 5 B b (.pointer (some ⟨b, 0, none⟩)) [] w' ∧ Below B w w') := Any.Builder_Grow_fresh Tryz.lays165 Tryz.Builder_Extra_165 B b n w hB hbk hBw hn
def Tryz.lays156_ren : Go.Shelf.Ren := ⟨fun | 156 => 29 | 165 => 46 | 166 => 47 | 169 => 43 | 240 => 54 | 241 => 58 | 276 => 68 | 277 => 69 | n => n, fun | 31 => 36 | 9 => 9 | 3 => 3 | 4 => 4 | 0 => 0 | 20 => 20 | 72 => 55 | 76 => 64 | 70 => 53 | 37 => 35 | 75 => 57 | 127 => 79 | 164 => 113 | 5 => 5 | 80 => 59 | n => n, fun | n => n⟩
theorem Tryz.lays156 : Go.Proofs.Lays.n156 Tryz.prog Tryz.lays156_ren := {
  mixed := by kernel_rfl
  f156 := Tryz.func29.trans (congrArg some (by kernel_rfl))
  f165 := Tryz.func46.trans (congrArg some (by kernel_rfl))
  f166 := Tryz.func47.trans (congrArg some (by kernel_rfl))
  f169 := Tryz.func43.trans (congrArg some (by kernel_rfl))
  f240 := Tryz.func54.trans (congrArg some (by kernel_rfl))
  f241 := Tryz.func58.trans (congrArg some (by kernel_rfl))
  f276 := Tryz.func68.trans (congrArg some (by kernel_rfl))
  f277 := Tryz.func69.trans (congrArg some (by kernel_rfl))
  t0 := Tryz.underlying0
  a0 := Tryz.isAgg0
  z0 := Tryz.sizeOf0
  v0 := Tryz.zeroValue0
  t3 := Tryz.underlying3
  a3 := Tryz.isAgg3
  z3 := Tryz.sizeOf3
  v3 := Tryz.zeroValue3
  t4 := Tryz.underlying4
  a4 := Tryz.isAgg4
  z4 := Tryz.sizeOf4
  v4 := Tryz.zeroValue4
  t9 := Tryz.underlying9
  a9 := Tryz.isAgg9
  z9 := Tryz.sizeOf9
  v9 := Tryz.zeroValue9
  t20 := Tryz.underlying20
  a20 := Tryz.isAgg20
  z20 := Tryz.sizeOf20
  v20 := Tryz.zeroValue20
  t31 := Tryz.underlying36
  a31 := Tryz.isAgg36
  z31 := Tryz.sizeOf36
  v31 := Tryz.zeroValue36
  t37 := Tryz.underlying35
  a37 := Tryz.isAgg35
  z37 := Tryz.sizeOf35
  v37 := Tryz.zeroValue35
  t70 := Tryz.underlying53
  a70 := Tryz.isAgg53
  z70 := Tryz.sizeOf53
  v70 := Tryz.zeroValue53
  t72 := Tryz.underlying55
  a72 := Tryz.isAgg55
  z72 := Tryz.sizeOf55
  v72 := Tryz.zeroValue55
  t75 := Tryz.underlying57
  a75 := Tryz.isAgg57
  z75 := Tryz.sizeOf57
  v75 := Tryz.zeroValue57
  t76 := Tryz.underlying64
  a76 := Tryz.isAgg64
  z76 := Tryz.sizeOf64
  v76 := Tryz.zeroValue64
  t127 := Tryz.underlying79
  a127 := Tryz.isAgg79
  z127 := Tryz.sizeOf79
  v127 := Tryz.zeroValue79
  t164 := Tryz.underlying113
  a164 := Tryz.isAgg113
  z164 := Tryz.sizeOf113
  v164 := Tryz.zeroValue113 }
theorem Tryz.Builder_Extra_156 : Builder.Extra Tryz.prog Tryz.lays156_ren := {
  sizeBuilder := by kernel_rfl
  liesBuilder := by kernel_rfl
  t5 := Tryz.underlying5
  a5 := Tryz.isAgg5
  z5 := Tryz.sizeOf5
  v5 := Tryz.zeroValue5
  infoByte := by kernel_rfl
  cellsByte := by kernel_rfl
  sizeByte := by kernel_rfl
  neB5 := by decide }
open Go.RowKit in
/-- No element: the empty string; the world is as it was. (Whatever the slice's address and capacity: a nil slice too.) (LAID: no walk: one application.) -/
theorem Tryz.strings_Join_none (a : Option Addr) (c : Nat) (sep : ByteArray) (w : World) :
    Calls Tryz.prog 29 #[.slice a 0 c, .string sep] w fun e w' => e = .returned (.string ⟨#[]⟩) ∧ w' = w := Any.strings_Join_none Tryz.lays156 Tryz.Builder_Extra_156 a c sep w
open Go.RowKit in
/-- strings.Join: "Join concatenates the elements of its first argument to create a single string. The separator string sep is placed between elements in the resulting string.": HOWEVER MANY ELEMENTS. Below the heap's end the world is as it was. (LAID: no walk: one application.) -/
theorem Tryz.strings_Join (bk o c : Nat) (xs : List ByteArray) (sep : ByteArray) (w : World) (hcells : ∀ (j : Nat) x, xs[j]? = some x → w.cell? ⟨bk, o + j, none⟩ = some (.string x)) (hbk : bk < w.heap.size) (hN : xs.length ≤ 140737488355328) (hcap : xs.length ≤ c) (hlen : (Lib.join (xs.map (·.data.toList)) sep.data.toList).length ≤ 140737488355328) :
    Calls Tryz.prog 29 #[.slice (some ⟨bk, o, none⟩) xs.length c, .string sep] w fun e w' => e = .returned (.string ⟨(Lib.join (xs.map (·.data.toList)) sep.data.toList).toArray⟩) ∧ Below w.heap.size w w' := Any.strings_Join Tryz.lays156 Tryz.Builder_Extra_156 bk o c xs sep w hcells hbk hN hcap hlen
def Tryz.lays120_ren : Go.Shelf.Ren := ⟨fun | 120 => 168 | n => n, fun | 5 => 5 | 4 => 4 | n => n, fun | n => n⟩
theorem Tryz.lays120 : Go.Proofs.Lays.n120 Tryz.prog Tryz.lays120_ren := {
  mixed := by kernel_rfl
  f120 := Tryz.func168.trans (congrArg some (by kernel_rfl))
  t4 := Tryz.underlying4
  a4 := Tryz.isAgg4
  z4 := Tryz.sizeOf4
  v4 := Tryz.zeroValue4
  t5 := Tryz.underlying5
  a5 := Tryz.isAgg5
  z5 := Tryz.sizeOf5
  v5 := Tryz.zeroValue5 }
/-- utf8.RuneStart: "RuneStart reports whether the byte could be the first byte of an encoded, possibly invalid rune. Second and subsequent bytes always have the top two bits set to 10.": IT RETURNS 'Lib.runeStart b'; the world is as it was. ('h0', 'h1': b is a byte: a caller has it of every byte that it was handed.) (LAID: no walk: one application.) -/
theorem Tryz.utf8_RuneStart (b : Int) (w : World) (h0 : 0 ≤ b) (h1 : b < 256) :
    Calls Tryz.prog 168 #[.int .u8 b] w fun e w' => e = .returned (.bool (Lib.runeStart b)) ∧ w' = w := Any.utf8_RuneStart Tryz.lays120 b w h0 h1
def Tryz.lays137_ren : Go.Shelf.Ren := ⟨fun | 137 => 36 | 217 => 49 | 266 => 59 | n => n, fun | 9 => 9 | 5 => 5 | 3 => 3 | n => n, fun | n => n⟩
theorem Tryz.lays137 : Go.Proofs.Lays.n137 Tryz.prog Tryz.lays137_ren := {
  mixed := by kernel_rfl
  f137 := Tryz.func36.trans (congrArg some (by kernel_rfl))
  f217 := Tryz.func49.trans (congrArg some (by kernel_rfl))
  f266 := Tryz.func59.trans (congrArg some (by kernel_rfl))
  t3 := Tryz.underlying3
  a3 := Tryz.isAgg3
  z3 := Tryz.sizeOf3
  v3 := Tryz.zeroValue3
  t5 := Tryz.underlying5
  a5 := Tryz.isAgg5
  z5 := Tryz.sizeOf5
  v5 := Tryz.zeroValue5
  t9 := Tryz.underlying9
  a9 := Tryz.isAgg9
  z9 := Tryz.sizeOf9
  v9 := Tryz.zeroValue9 }
open Go.RowKit in
/-- strings.IndexByte: "IndexByte returns the index of the first instance of c in s, or -1 if c is not present in s.": IT RETURNS 'Lib.indexByte s c'; the world is as it was. (LAID: no walk: one application.) -/
theorem Tryz.strings_IndexByte (s : ByteArray) (c : Int) (w : World) :
    Calls Tryz.prog 36 #[.string s, .int .u8 c] w fun e w' => e = .returned (.int .i64 (Lib.indexByte s.data.toList c.toNat.toUInt8)) ∧ w' = w := Any.strings_IndexByte Tryz.lays137 s c w
open Go.RowKit in
/-- (*strings.Builder).Len: "Len returns the number of accumulated bytes; b.Len() == len(b.String()).": the world is as it was. (THE FORM '_f': 'Lib.IsBuilderF'.) (LAID: no walk: one application.) -/
theorem Tryz.Builder_Len_f (B b : Nat) (bs : List Value) (w : World) (h : Lib.IsBuilderF 55 5 B b bs w) :
    Calls Tryz.prog 48 #[.pointer (some ⟨b, 0, none⟩)] w fun e w' => e = .returned (.int .i64 bs.length) ∧ w' = w := Any.Builder_Len_f Tryz.lays170 B b bs w h
open Go.RowKit in
/-- (*strings.Builder).String: "String returns the accumulated string.": OF A BUILDER THAT HOLDS AT LEAST ONE BYTE. ✋ THE MODEL FREEZES THOSE BYTES IN THE BUFFER (unsafe.String): a later write INTO them ends the model's run without an answer; a later append BEHIND them goes on. The statement's order of evaluation is drawn: one draw. THE FORM '_f': IT SAYS BESIDES THAT THE BUILDER IS A BUILDER STILL ('Lib.IsBuilderF', the same bytes): SO IT CAN BE WRITTEN ON: 'b.WriteString(b.String()[:k])'. (LAID: no walk: one application.) -/
theorem Tryz.Builder_String_f (B b : Nat) (l : List UInt8) (w : World) (h : Lib.IsBuilderF 55 5 B b (Lib.byteCells l) w) (h0 : l ≠ []) :
    Calls Tryz.prog 43 #[.pointer (some ⟨b, 0, none⟩)] w fun e w' => e = .returned (.string ⟨l.toArray⟩) ∧ (Lib.IsBuilderF 55 5 B b (Lib.byteCells l) w' ∧ Below B w w') := Any.Builder_String_f Tryz.lays169 Tryz.Builder_Extra_169 B b l w h h0
open Go.RowKit in
/-- (*strings.Builder).String OF A BUILDER THAT HOLDS NO BYTE: the empty string; THE FORM '_f': a builder still. (LAID: no walk: one application.) -/
theorem Tryz.Builder_String_empty_f (B b : Nat) (w : World) (h : Lib.IsBuilderF 55 5 B b [] w) (hBw : B ≤ w.heap.size) :
    Calls Tryz.prog 43 #[.pointer (some ⟨b, 0, none⟩)] w fun e w' => e = .returned (.string ⟨#[]⟩) ∧ (Lib.IsBuilderF 55 5 B b [] w' ∧ Below B w w') := Any.Builder_String_empty_f Tryz.lays169 Tryz.Builder_Extra_169 B b w h hBw
open Go.RowKit in
/-- (*strings.Builder).String: "String returns the accumulated string.": WHATEVER THE BUILDER HOLDS; THE FORM '_f': OF A BUILDER THAT MAY HAVE BEEN READ BEFORE; AND IT IS A BUILDER STILL, holding the same bytes: it can be written on. (LAID: no walk: one application.) -/
theorem Tryz.Builder_String_any_f (B b : Nat) (l : List UInt8) (w : World) (h : Lib.IsBuilderF 55 5 B b (Lib.byteCells l) w) (hBw : B ≤ w.heap.size) :
    Calls Tryz.prog 43 #[.pointer (some ⟨b, 0, none⟩)] w fun e w' => e = .returned (.string ⟨l.toArray⟩) ∧ (Lib.IsBuilderF 55 5 B b (Lib.byteCells l) w' ∧ Below B w w') := Any.Builder_String_any_f Tryz.lays169 Tryz.Builder_Extra_169 B b l w h hBw
open Go.RowKit in
/-- (*strings.Builder).String: "String returns the accumulated string.": OF A BUILDER THAT HOLDS AT LEAST ONE BYTE. ✋ THE MODEL FREEZES THOSE BYTES IN THE BUFFER (unsafe.String): a later write INTO them ends the model's run without an answer; a later append BEHIND them goes on. The statement's order of evaluation is drawn: one draw. THE FORM '_k': OVER 'Lib.IsBuilderF' (a builder that 'String()' may have read), AND WITH THE FRAME THAT REACHES ABOVE THE BUILDER: 'Lib.OthersKept': every block that is not b and is no row of uint8's stands as it stood: the iterator of a range among them. (LAID: no walk: one application.) -/
theorem Tryz.Builder_String_k (B b : Nat) (l : List UInt8) (w : World) (h : Lib.IsBuilderF 55 5 B b (Lib.byteCells l) w) (h0 : l ≠ []) :
    Calls Tryz.prog 43 #[.pointer (some ⟨b, 0, none⟩)] w fun e w' => e = .returned (.string ⟨l.toArray⟩) ∧ (Lib.IsBuilderF 55 5 B b (Lib.byteCells l) w' ∧ Below B w w' ∧ Lib.OthersKept 5 (some b) w w') := Any.Builder_String_k Tryz.lays169 Tryz.Builder_Extra_169 B b l w h h0
open Go.RowKit in
/-- (*strings.Builder).String OF A BUILDER THAT HOLDS NO BYTE: the empty string; THE FORM '_k': OVER 'Lib.IsBuilderF' (a builder that 'String()' may have read), AND WITH THE FRAME THAT REACHES ABOVE THE BUILDER: 'Lib.OthersKept': every block that is not b and is no row of uint8's stands as it stood: the iterator of a range among them. (LAID: no walk: one application.) -/
theorem Tryz.Builder_String_empty_k (B b : Nat) (w : World) (h : Lib.IsBuilderF 55 5 B b [] w) (hBw : B ≤ w.heap.size) :
    Calls Tryz.prog 43 #[.pointer (some ⟨b, 0, none⟩)] w fun e w' => e = .returned (.string ⟨#[]⟩) ∧ (Lib.IsBuilderF 55 5 B b [] w' ∧ Below B w w' ∧ Lib.OthersKept 5 (some b) w w') := Any.Builder_String_empty_k Tryz.lays169 Tryz.Builder_Extra_169 B b w h hBw
open Go.RowKit in
/-- (*strings.Builder).String: "String returns the accumulated string.": WHATEVER THE BUILDER HOLDS; THE FORM '_k': OVER 'Lib.IsBuilderF' (a builder that 'String()' may have read), AND WITH THE FRAME THAT REACHES ABOVE THE BUILDER: 'Lib.OthersKept': every block that is not b and is no row of uint8's stands as it stood: the iterator of a range among them. (LAID: no walk: one application.) -/
theorem Tryz.Builder_String_any_k (B b : Nat) (l : List UInt8) (w : World) (h : Lib.IsBuilderF 55 5 B b (Lib.byteCells l) w) (hBw : B ≤ w.heap.size) :
    Calls Tryz.prog 43 #[.pointer (some ⟨b, 0, none⟩)] w fun e w' => e = .returned (.string ⟨l.toArray⟩) ∧ (Lib.IsBuilderF 55 5 B b (Lib.byteCells l) w' ∧ Below B w w' ∧ Lib.OthersKept 5 (some b) w w') := Any.Builder_String_any_k Tryz.lays169 Tryz.Builder_Extra_169 B b l w h hBw
def Tryz.laysM181_ren : Go.Shelf.Ren := ⟨fun | 181 => 256 | n => n, fun | 130 => 74 | 3 => 3 | 0 => 0 | 93 => 72 | 37 => 35 | 91 => 70 | 5 => 5 | n => n, fun | n => n⟩
theorem Tryz.laysM181 : Go.Proofs.LaysM.n181 Tryz.prog Tryz.laysM181_ren := {
  mixed := by kernel_rfl
  f181 := Tryz.func256.trans (congrArg some (by kernel_rfl))
  t0 := Tryz.underlying0
  a0 := Tryz.isAgg0
  z0 := Tryz.sizeOf0
  v0 := Tryz.zeroValue0
  t3 := Tryz.underlying3
  a3 := Tryz.isAgg3
  z3 := Tryz.sizeOf3
  v3 := Tryz.zeroValue3
  t37 := Tryz.underlying35
  a37 := Tryz.isAgg35
  z37 := Tryz.sizeOf35
  v37 := Tryz.zeroValue35
  t93 := Tryz.underlying72
  a93 := Tryz.isAgg72
  z93 := Tryz.sizeOf72
  v93 := Tryz.zeroValue72
  t130 := Tryz.underlying74
  a130 := Tryz.isAgg74
  z130 := Tryz.sizeOf74
  v130 := Tryz.zeroValue74
  t5 := Tryz.underlying5
  a5 := Tryz.isAgg5
  z5 := Tryz.sizeOf5
  v5 := Tryz.zeroValue5
  t91 := Tryz.underlying70
  a91 := Tryz.isAgg70
  z91 := Tryz.sizeOf70
  v91 := Tryz.zeroValue70
  i0 := by kernel_rfl
  i3 := by kernel_rfl
  i5 := by kernel_rfl
  i37 := by kernel_rfl
  i91 := by kernel_rfl
  i93 := by kernel_rfl
  i130 := by kernel_rfl }
open Go.RowKit in
/-- (*bytes.Buffer).Len: "Len returns the number of bytes of the unread portion of the buffer; b.Len() == len(b.Bytes()).": the world is as it was but for the count of draws (the statement has two reads: its order is drawn). (LAID: no walk: one application.) -/
theorem Tryz.Buffer_Len (B b : Nat) (bs : List Value) (w : World) (h : Lib.IsBuffer 72 5 B b bs w) :
    Calls Tryz.prog 256 #[.pointer (some ⟨b, 0, none⟩)] w fun e w' => e = .returned (.int .i64 bs.length) ∧ ∃ n, w' = w.drewN n := Any.Buffer_Len Tryz.laysM181 B b bs w h
def Tryz.laysM251_ren : Go.Shelf.Ren := ⟨fun | 251 => 254 | n => n, fun | 130 => 74 | 3 => 3 | 4 => 4 | 0 => 0 | 93 => 72 | 37 => 35 | 91 => 70 | 5 => 5 | n => n, fun | n => n⟩
theorem Tryz.laysM251 : Go.Proofs.LaysM.n251 Tryz.prog Tryz.laysM251_ren := {
  mixed := by kernel_rfl
  f251 := Tryz.func254.trans (congrArg some (by kernel_rfl))
  t0 := Tryz.underlying0
  a0 := Tryz.isAgg0
  z0 := Tryz.sizeOf0
  v0 := Tryz.zeroValue0
  t3 := Tryz.underlying3
  a3 := Tryz.isAgg3
  z3 := Tryz.sizeOf3
  v3 := Tryz.zeroValue3
  t4 := Tryz.underlying4
  a4 := Tryz.isAgg4
  z4 := Tryz.sizeOf4
  v4 := Tryz.zeroValue4
  t37 := Tryz.underlying35
  a37 := Tryz.isAgg35
  z37 := Tryz.sizeOf35
  v37 := Tryz.zeroValue35
  t93 := Tryz.underlying72
  a93 := Tryz.isAgg72
  z93 := Tryz.sizeOf72
  v93 := Tryz.zeroValue72
  t130 := Tryz.underlying74
  a130 := Tryz.isAgg74
  z130 := Tryz.sizeOf74
  v130 := Tryz.zeroValue74
  t5 := Tryz.underlying5
  a5 := Tryz.isAgg5
  z5 := Tryz.sizeOf5
  v5 := Tryz.zeroValue5
  t91 := Tryz.underlying70
  a91 := Tryz.isAgg70
  z91 := Tryz.sizeOf70
  v91 := Tryz.zeroValue70
  i0 := by kernel_rfl
  i3 := by kernel_rfl
  i4 := by kernel_rfl
  i5 := by kernel_rfl
  i37 := by kernel_rfl
  i91 := by kernel_rfl
  i93 := by kernel_rfl
  i130 := by kernel_rfl }
open Go.RowKit in
/-- (*bytes.Buffer).tryGrowByReslice: "tryGrowByReslice is an inlineable version of grow for the fast-case where the internal buffer only needs to be resliced. It returns the index where bytes should be written and whether it succeeded.": THERE IS ROOM: 'buf' is resliced to l + n. (LAID: no walk: one application.) -/
theorem Tryz.Buffer_tryGrow_room (b : Nat) (ao : Option Addr) (l cap n : Nat) (w : World) (c0 : w.cell? ⟨b, 0, none⟩ = some (.slice ao l cap)) (f0 : w.frozen? ⟨b, 0, none⟩ = false) (hlc : l ≤ cap) (hcap : cap ≤ maxLen) (hn : n ≤ cap - l) :
    Calls Tryz.prog 254 #[.pointer (some ⟨b, 0, none⟩), .int .i64 n] w fun e w' => e = .returned (.tuple #[.int .i64 l, .bool true]) ∧ w' = w.setCell ⟨b, 0, none⟩ (.slice ao (l + n) cap) := Any.Buffer_tryGrow_room Tryz.laysM251 b ao l cap n w c0 f0 hlc hcap hn
open Go.RowKit in
/-- .. THERE IS NONE: nothing turns. (LAID: no walk: one application.) -/
theorem Tryz.Buffer_tryGrow_none (b : Nat) (ao : Option Addr) (l cap n : Nat) (w : World) (c0 : w.cell? ⟨b, 0, none⟩ = some (.slice ao l cap)) (hlc : l ≤ cap) (hcap : cap ≤ maxLen) (hn : cap - l < n) :
    Calls Tryz.prog 254 #[.pointer (some ⟨b, 0, none⟩), .int .i64 n] w fun e w' => e = .returned (.tuple #[.int .i64 0, .bool false]) ∧ w' = w := Any.Buffer_tryGrow_none Tryz.laysM251 b ao l cap n w c0 hlc hcap hn
def Tryz.laysM324_ren : Go.Shelf.Ren := ⟨fun | 324 => 258 | n => n, fun | 20 => 20 | 4 => 4 | 75 => 57 | 0 => 0 | 80 => 59 | 9 => 9 | n => n, fun | 14 => 9 | n => n⟩
theorem Tryz.laysM324 : Go.Proofs.LaysM.n324 Tryz.prog Tryz.laysM324_ren := {
  mixed := by kernel_rfl
  f324 := Tryz.func258.trans (congrArg some (by kernel_rfl))
  t0 := Tryz.underlying0
  a0 := Tryz.isAgg0
  z0 := Tryz.sizeOf0
  v0 := Tryz.zeroValue0
  t4 := Tryz.underlying4
  a4 := Tryz.isAgg4
  z4 := Tryz.sizeOf4
  v4 := Tryz.zeroValue4
  t20 := Tryz.underlying20
  a20 := Tryz.isAgg20
  z20 := Tryz.sizeOf20
  v20 := Tryz.zeroValue20
  t75 := Tryz.underlying57
  a75 := Tryz.isAgg57
  z75 := Tryz.sizeOf57
  v75 := Tryz.zeroValue57
  g14 := by kernel_rfl
  t9 := Tryz.underlying9
  a9 := Tryz.isAgg9
  z9 := Tryz.sizeOf9
  v9 := Tryz.zeroValue9
  t80 := Tryz.underlying59
  a80 := Tryz.isAgg59
  z80 := Tryz.sizeOf59
  v80 := Tryz.zeroValue59
  i0 := by kernel_rfl
  i4 := by kernel_rfl
  i9 := by kernel_rfl
  i20 := by kernel_rfl
  i75 := by kernel_rfl
  i80 := by kernel_rfl
  m14 := by kernel_rfl }
theorem Tryz.growSlice_catch_idle (w : World) :
    CallsD Tryz.prog 258 #[] .returning w fun e u' w' => e = .returned (.tuple #[]) ∧ u' = .returning ∧ w' = w := Any.growSlice_catch_idle Tryz.laysM324 w
def Tryz.laysM290_ren : Go.Shelf.Ren := ⟨fun | 290 => 257 | 324 => 258 | n => n, fun | 37 => 35 | 3 => 3 | 0 => 0 | 4 => 4 | 20 => 20 | 75 => 57 | 5 => 5 | 80 => 59 | 9 => 9 | n => n, fun | 14 => 9 | n => n⟩
theorem Tryz.laysM290 : Go.Proofs.LaysM.n290 Tryz.prog Tryz.laysM290_ren := {
  mixed := by kernel_rfl
  f290 := Tryz.func257.trans (congrArg some (by kernel_rfl))
  f324 := Tryz.func258.trans (congrArg some (by kernel_rfl))
  t0 := Tryz.underlying0
  a0 := Tryz.isAgg0
  z0 := Tryz.sizeOf0
  v0 := Tryz.zeroValue0
  t3 := Tryz.underlying3
  a3 := Tryz.isAgg3
  z3 := Tryz.sizeOf3
  v3 := Tryz.zeroValue3
  t4 := Tryz.underlying4
  a4 := Tryz.isAgg4
  z4 := Tryz.sizeOf4
  v4 := Tryz.zeroValue4
  t20 := Tryz.underlying20
  a20 := Tryz.isAgg20
  z20 := Tryz.sizeOf20
  v20 := Tryz.zeroValue20
  t37 := Tryz.underlying35
  a37 := Tryz.isAgg35
  z37 := Tryz.sizeOf35
  v37 := Tryz.zeroValue35
  t75 := Tryz.underlying57
  a75 := Tryz.isAgg57
  z75 := Tryz.sizeOf57
  v75 := Tryz.zeroValue57
  g14 := by kernel_rfl
  t5 := Tryz.underlying5
  a5 := Tryz.isAgg5
  z5 := Tryz.sizeOf5
  v5 := Tryz.zeroValue5
  t9 := Tryz.underlying9
  a9 := Tryz.isAgg9
  z9 := Tryz.sizeOf9
  v9 := Tryz.zeroValue9
  t80 := Tryz.underlying59
  a80 := Tryz.isAgg59
  z80 := Tryz.sizeOf59
  v80 := Tryz.zeroValue59
  i0 := by kernel_rfl
  i3 := by kernel_rfl
  i4 := by kernel_rfl
  i5 := by kernel_rfl
  i9 := by kernel_rfl
  i20 := by kernel_rfl
  i37 := by kernel_rfl
  i75 := by kernel_rfl
  i80 := by kernel_rfl
  m14 := by kernel_rfl }
open Go.RowKit in
/-- bytes.growSlice: "growSlice grows b by n, preserving the original content of b.": OF A SLICE THAT LIES AT THE HEAD OF A ROW: a new row, number 'w.heap.size': it begins with b's l cells; its capacity has room for n more; whatever lay below is as it was. (LAID: no walk: one application.) -/
theorem Tryz.bytes_growSlice_row (g l c n : Nat) (cur : Array Value) (w : World) (hg : w.heap[g]? = some (.cells cur 5 (0, 0))) (hcs : cur.size = c) (hlc : l ≤ c) (hn : 1 ≤ n) (hlim : l + n ≤ 140737488355328) (hc2 : c ≤ 140737488355328) (h1 : ∀ v ∈ cur.toList.take l, v.oneCell' = true) :
    Calls Tryz.prog 257 #[.slice (some ⟨g, 0, none⟩) l c, .int .i64 n] w fun e w' => ∃ cap2 cells, e = .returned (.slice (some ⟨w.heap.size, 0, none⟩) l cap2) ∧ w'.heap[w.heap.size]? = some (.cells cells 5 (0, 0)) ∧
      cells.size = cap2 ∧ cells.toList.take l = cur.toList.take l ∧ l + n ≤ cap2 ∧ cap2 ≤ maxLen ∧ Below w.heap.size w w' := Any.bytes_growSlice_row Tryz.laysM290 g l c n cur w hg hcs hlc hn hlim hc2 h1
open Go.RowKit in
/-- .. OF THE NIL SLICE: a new row with room for n. (LAID: no walk: one application.) -/
theorem Tryz.bytes_growSlice_nil (n : Nat) (w : World) (hn : 1 ≤ n) (hlim : n ≤ 140737488355328) :
    Calls Tryz.prog 257 #[.slice none 0 0, .int .i64 n] w fun e w' => ∃ cap2 cells, e = .returned (.slice (some ⟨w.heap.size, 0, none⟩) 0 cap2) ∧ w'.heap[w.heap.size]? = some (.cells cells 5 (0, 0)) ∧
      cells.size = cap2 ∧ n ≤ cap2 ∧ cap2 ≤ maxLen ∧ Below w.heap.size w w' := Any.bytes_growSlice_nil Tryz.laysM290 n w hn hlim
def Tryz.laysM182_ren : Go.Shelf.Ren := ⟨fun | 182 => 50 | n => n, fun | 130 => 74 | 9 => 9 | 4 => 4 | 0 => 0 | 93 => 72 | 37 => 35 | 3 => 3 | 91 => 70 | 5 => 5 | n => n, fun | n => n⟩
theorem Tryz.laysM182 : Go.Proofs.LaysM.n182 Tryz.prog Tryz.laysM182_ren := {
  mixed := by kernel_rfl
  f182 := Tryz.func50.trans (congrArg some (by kernel_rfl))
  t0 := Tryz.underlying0
  a0 := Tryz.isAgg0
  z0 := Tryz.sizeOf0
  v0 := Tryz.zeroValue0
  t3 := Tryz.underlying3
  a3 := Tryz.isAgg3
  z3 := Tryz.sizeOf3
  v3 := Tryz.zeroValue3
  t4 := Tryz.underlying4
  a4 := Tryz.isAgg4
  z4 := Tryz.sizeOf4
  v4 := Tryz.zeroValue4
  t9 := Tryz.underlying9
  a9 := Tryz.isAgg9
  z9 := Tryz.sizeOf9
  v9 := Tryz.zeroValue9
  t37 := Tryz.underlying35
  a37 := Tryz.isAgg35
  z37 := Tryz.sizeOf35
  v37 := Tryz.zeroValue35
  t93 := Tryz.underlying72
  a93 := Tryz.isAgg72
  z93 := Tryz.sizeOf72
  v93 := Tryz.zeroValue72
  t130 := Tryz.underlying74
  a130 := Tryz.isAgg74
  z130 := Tryz.sizeOf74
  v130 := Tryz.zeroValue74
  t5 := Tryz.underlying5
  a5 := Tryz.isAgg5
  z5 := Tryz.sizeOf5
  v5 := Tryz.zeroValue5
  t91 := Tryz.underlying70
  a91 := Tryz.isAgg70
  z91 := Tryz.sizeOf70
  v91 := Tryz.zeroValue70
  i0 := by kernel_rfl
  i3 := by kernel_rfl
  i4 := by kernel_rfl
  i5 := by kernel_rfl
  i9 := by kernel_rfl
  i37 := by kernel_rfl
  i91 := by kernel_rfl
  i93 := by kernel_rfl
  i130 := by kernel_rfl }
open Go.RowKit in
/-- (*bytes.Buffer).String: "String returns the contents of the unread portion of the buffer as a string.": THE BYTES THAT WERE WRITTEN. The world is as it was but for the count of draws (the statement has two reads: its order is drawn). (LAID: no walk: one application.) -/
theorem Tryz.Buffer_String (B b : Nat) (l : List UInt8) (w : World) (h : Lib.IsBuffer 72 5 B b (Lib.byteCells l) w) :
    Calls Tryz.prog 50 #[.pointer (some ⟨b, 0, none⟩)] w fun e w' => e = .returned (.string ⟨l.toArray⟩) ∧ ∃ n, w' = w.drewN n := Any.Buffer_String Tryz.laysM182 B b l w h
def Tryz.lays217_ren : Go.Shelf.Ren := ⟨fun | 217 => 49 | 266 => 59 | n => n, fun | 9 => 9 | 5 => 5 | 3 => 3 | n => n, fun | n => n⟩
theorem Tryz.lays217 : Go.Proofs.Lays.n217 Tryz.prog Tryz.lays217_ren := {
  mixed := by kernel_rfl
  f217 := Tryz.func49.trans (congrArg some (by kernel_rfl))
  f266 := Tryz.func59.trans (congrArg some (by kernel_rfl))
  t3 := Tryz.underlying3
  a3 := Tryz.isAgg3
  z3 := Tryz.sizeOf3
  v3 := Tryz.zeroValue3
  t5 := Tryz.underlying5
  a5 := Tryz.isAgg5
  z5 := Tryz.sizeOf5
  v5 := Tryz.zeroValue5
  t9 := Tryz.underlying9
  a9 := Tryz.isAgg9
  z9 := Tryz.sizeOf9
  v9 := Tryz.zeroValue9 }
open Go.RowKit Go.Lib in
/-- internal/stringslite.IndexByte (what strings.IndexByte calls): IT RETURNS 'Lib.indexByte s c'; the world is as it was. (LAID: no walk: one application.) -/
theorem Tryz.stringslite_IndexByte (s : ByteArray) (c : Int) (w : World) :
    Calls Tryz.prog 49 #[.string s, .int .u8 c] w fun e w' => e = .returned (.int .i64 (Lib.indexByte s.data.toList c.toNat.toUInt8)) ∧ w' = w := Any.stringslite_IndexByte Tryz.lays217 s c w
def Tryz.laysM252_ren : Go.Shelf.Ren := ⟨fun | 252 => 255 | 181 => 256 | 184 => 246 | 251 => 254 | 290 => 257 | 324 => 258 | n => n, fun | 130 => 74 | 3 => 3 | 4 => 4 | 0 => 0 | 93 => 72 | 131 => 265 | 37 => 35 | 75 => 57 | 91 => 70 | 20 => 20 | 5 => 5 | 80 => 59 | 9 => 9 | n => n, fun | 14 => 9 | n => n⟩
theorem Tryz.laysM252 : Go.Proofs.LaysM.n252 Tryz.prog Tryz.laysM252_ren := {
  mixed := by kernel_rfl
  f181 := Tryz.func256.trans (congrArg some (by kernel_rfl))
  f184 := Tryz.func246.trans (congrArg some (by kernel_rfl))
  f251 := Tryz.func254.trans (congrArg some (by kernel_rfl))
  f252 := Tryz.func255.trans (congrArg some (by kernel_rfl))
  f290 := Tryz.func257.trans (congrArg some (by kernel_rfl))
  f324 := Tryz.func258.trans (congrArg some (by kernel_rfl))
  t0 := Tryz.underlying0
  a0 := Tryz.isAgg0
  z0 := Tryz.sizeOf0
  v0 := Tryz.zeroValue0
  t3 := Tryz.underlying3
  a3 := Tryz.isAgg3
  z3 := Tryz.sizeOf3
  v3 := Tryz.zeroValue3
  t4 := Tryz.underlying4
  a4 := Tryz.isAgg4
  z4 := Tryz.sizeOf4
  v4 := Tryz.zeroValue4
  t20 := Tryz.underlying20
  a20 := Tryz.isAgg20
  z20 := Tryz.sizeOf20
  v20 := Tryz.zeroValue20
  t37 := Tryz.underlying35
  a37 := Tryz.isAgg35
  z37 := Tryz.sizeOf35
  v37 := Tryz.zeroValue35
  t75 := Tryz.underlying57
  a75 := Tryz.isAgg57
  z75 := Tryz.sizeOf57
  v75 := Tryz.zeroValue57
  t91 := Tryz.underlying70
  a91 := Tryz.isAgg70
  z91 := Tryz.sizeOf70
  v91 := Tryz.zeroValue70
  t93 := Tryz.underlying72
  a93 := Tryz.isAgg72
  z93 := Tryz.sizeOf72
  v93 := Tryz.zeroValue72
  t130 := Tryz.underlying74
  a130 := Tryz.isAgg74
  z130 := Tryz.sizeOf74
  v130 := Tryz.zeroValue74
  t131 := Tryz.underlying265
  a131 := Tryz.isAgg265
  z131 := Tryz.sizeOf265
  v131 := Tryz.zeroValue265
  g14 := by kernel_rfl
  t5 := Tryz.underlying5
  a5 := Tryz.isAgg5
  z5 := Tryz.sizeOf5
  v5 := Tryz.zeroValue5
  t9 := Tryz.underlying9
  a9 := Tryz.isAgg9
  z9 := Tryz.sizeOf9
  v9 := Tryz.zeroValue9
  t80 := Tryz.underlying59
  a80 := Tryz.isAgg59
  z80 := Tryz.sizeOf59
  v80 := Tryz.zeroValue59
  i0 := by kernel_rfl
  i3 := by kernel_rfl
  i4 := by kernel_rfl
  i5 := by kernel_rfl
  i9 := by kernel_rfl
  i20 := by kernel_rfl
  i37 := by kernel_rfl
  i75 := by kernel_rfl
  i80 := by kernel_rfl
  i91 := by kernel_rfl
  i93 := by kernel_rfl
  i130 := by kernel_rfl
  i131 := by kernel_rfl
  m14 := by kernel_rfl }
open Go.RowKit in
/-- grow, WHERE THE BUFFER HOLDS A ROW, NO BYTE IN IT (behind a Reset), AND THE ROW HAS NO ROOM: growSlice. (THE TEXT OF 'Buffer_grow_row' WITH 0 FOR l, BY PROGRAM: the walk parts on 'm == 0' and writes 0 for l throughout the goal: facts that still say l then do not strike: so l is laid in ahead of the walk.) (LAID: no walk: one application.) -/
theorem Tryz.Buffer_grow_row0_kept (B b g cap n : Nat) (lr : Int) (cur : Array Value) (bs : List Value) (w : World) (hB : B ≤ b) (hBw : B ≤ w.heap.size) (hbk : w.heap[b]? = some (.cells #[.slice (some ⟨g, 0, none⟩) 0 cap, .int .i64 0, .int .i8 lr] 72 (0, 0))) (hl : bs.length = 0) (hBg : B ≤ g) (hg : w.heap[g]? = some (.cells cur 5 (0, 0))) (hlc : 0 ≤ cap) (hcm : cap ≤ maxLen) (hcs : cur.size = cap) (htake : cur.toList.take 0 = bs) (hgb : g ≠ b) (h1 : ∀ v ∈ bs, v.oneCell' = true) (hn : 1 ≤ n) (hroom : cap - 0 < n) (hlim : 0 + n ≤ 140737488355328) :
    Calls Tryz.prog 255 #[.pointer (some ⟨b, 0, none⟩), .int .i64 n] w fun e w' => e = .returned (.int .i64 0) ∧ ∃ xs, xs.length = n ∧ Lib.IsBuffer 72 5 B b (bs ++ xs) w' ∧ Below B w w' ∧ Lib.OthersKept 5 (some b) w w' := Any.Buffer_grow_row0_kept Tryz.laysM252 B b g cap n lr cur bs w hB hBw hbk hl hBg hg hlc hcm hcs htake hgb h1 hn hroom hlim
open Go.RowKit in
/-- grow, WHERE THE BUFFER HOLDS A ROW THAT HAS NO ROOM: growSlice. (LAID: no walk: one application.) -/
theorem Tryz.Buffer_grow_row_kept (B b g l cap n : Nat) (lr : Int) (cur : Array Value) (bs : List Value) (w : World) (hB : B ≤ b) (hBw : B ≤ w.heap.size) (hbk : w.heap[b]? = some (.cells #[.slice (some ⟨g, 0, none⟩) l cap, .int .i64 0, .int .i8 lr] 72 (0, 0))) (hl : bs.length = l) (hBg : B ≤ g) (hg : w.heap[g]? = some (.cells cur 5 (0, 0))) (hlc : l ≤ cap) (hcm : cap ≤ maxLen) (hcs : cur.size = cap) (htake : cur.toList.take l = bs) (hgb : g ≠ b) (h1 : ∀ v ∈ bs, v.oneCell' = true) (hn : 1 ≤ n) (hroom : cap - l < n) (hlim : l + n ≤ 140737488355328) :
    Calls Tryz.prog 255 #[.pointer (some ⟨b, 0, none⟩), .int .i64 n] w fun e w' => e = .returned (.int .i64 l) ∧ ∃ xs, xs.length = n ∧ Lib.IsBuffer 72 5 B b (bs ++ xs) w' ∧ Below B w w' ∧ Lib.OthersKept 5 (some b) w w' := Any.Buffer_grow_row_kept Tryz.laysM252 B b g l cap n lr cur bs w hB hBw hbk hl hBg hg hlc hcm hcs htake hgb h1 hn hroom hlim
open Go.RowKit in
/-- grow, 'buf' nil, n AT MOST 64: 'b.buf = make([]byte, n, smallBufferSize)'. (LAID: no walk: one application.) -/
theorem Tryz.Buffer_grow_nil_small_kept (B b n : Nat) (lr : Int) (w : World) (hB : B ≤ b) (hBw : B ≤ w.heap.size) (hbk : w.heap[b]? = some (.cells #[.slice none 0 0, .int .i64 0, .int .i8 lr] 72 (0, 0))) (hn : 1 ≤ n) (h64 : n ≤ 64) :
    Calls Tryz.prog 255 #[.pointer (some ⟨b, 0, none⟩), .int .i64 n] w fun e w' => e = .returned (.int .i64 0) ∧ ∃ xs, xs.length = n ∧ Lib.IsBuffer 72 5 B b xs w' ∧ Below B w w' ∧ Lib.OthersKept 5 (some b) w w' := Any.Buffer_grow_nil_small_kept Tryz.laysM252 B b n lr w hB hBw hbk hn h64
open Go.RowKit in
/-- grow, 'buf' nil, n ABOVE 64: growSlice of the nil slice. (LAID: no walk: one application.) -/
theorem Tryz.Buffer_grow_nil_big_kept (B b n : Nat) (lr : Int) (w : World) (hB : B ≤ b) (hBw : B ≤ w.heap.size) (hbk : w.heap[b]? = some (.cells #[.slice none 0 0, .int .i64 0, .int .i8 lr] 72 (0, 0))) (h64 : 64 < n) (hlim : n ≤ 140737488355328) :
    Calls Tryz.prog 255 #[.pointer (some ⟨b, 0, none⟩), .int .i64 n] w fun e w' => e = .returned (.int .i64 0) ∧ ∃ xs, xs.length = n ∧ Lib.IsBuffer 72 5 B b xs w' ∧ Below B w w' ∧ Lib.OthersKept 5 (some b) w w' := Any.Buffer_grow_nil_big_kept Tryz.laysM252 B b n lr w hB hBw hbk h64 hlim
open Go.RowKit in
/-- tryGrowByReslice: EITHER there is room: the place to write at is the old length, and the buffer holds the old bytes and n more of whatever lay there; OR there is none: nothing turns, and 'Lib.NoRoom' is what grow asks. (LAID: no walk: one application.) -/
theorem Tryz.Buffer_tryGrow_kept (B b n : Nat) (bs : List Value) (w : World) (h : Lib.IsBuffer 72 5 B b bs w) :
    Calls Tryz.prog 254 #[.pointer (some ⟨b, 0, none⟩), .int .i64 n] w fun e w' =>
      (e = .returned (.tuple #[.int .i64 bs.length, .bool true]) ∧ ∃ xs, xs.length = n ∧ Lib.IsBuffer 72 5 B b (bs ++ xs) w' ∧ Below B w w' ∧ Lib.OthersKept 5 (some b) w w') ∨
      (e = .returned (.tuple #[.int .i64 0, .bool false]) ∧ w' = w ∧ Lib.NoRoom b n w) := Any.Buffer_tryGrow_kept Tryz.laysM251 B b n bs w h
open Go.RowKit in
/-- (*bytes.Buffer).grow: "grow grows the buffer to guarantee space for n more bytes. It returns the index where bytes should be written.": WHERE THERE IS NO ROOM; UNDER Go's OWN LIMIT (the new length takes at most 2^47 bytes): the old length; the buffer holds the old bytes and n more of whatever. (LAID: no walk: one application.) -/
theorem Tryz.Buffer_grow_kept (B b n : Nat) (bs : List Value) (w : World) (h : Lib.IsBuffer 72 5 B b bs w) (hnr : Lib.NoRoom b n w) (hBw : B ≤ w.heap.size) (h1 : ∀ v ∈ bs, v.oneCell' = true) (hlim : bs.length + n ≤ 140737488355328) :
    Calls Tryz.prog 255 #[.pointer (some ⟨b, 0, none⟩), .int .i64 n] w fun e w' => e = .returned (.int .i64 bs.length) ∧ ∃ xs, xs.length = n ∧ Lib.IsBuffer 72 5 B b (bs ++ xs) w' ∧ Below B w w' ∧ Lib.OthersKept 5 (some b) w w' := Any.Buffer_grow_kept Tryz.laysM252 B b n bs w h hnr hBw h1 hlim
def Tryz.laysM179_ren : Go.Shelf.Ren := ⟨fun | 179 => 267 | 251 => 254 | 252 => 255 | 181 => 256 | 184 => 246 | 290 => 257 | 324 => 258 | n => n, fun | 130 => 74 | 5 => 5 | 75 => 57 | 0 => 0 | 93 => 72 | 91 => 70 | 3 => 3 | 131 => 265 | 4 => 4 | 37 => 35 | 20 => 20 | 80 => 59 | 9 => 9 | n => n, fun | 14 => 9 | n => n⟩
theorem Tryz.laysM179 : Go.Proofs.LaysM.n179 Tryz.prog Tryz.laysM179_ren := {
  mixed := by kernel_rfl
  f179 := Tryz.func267.trans (congrArg some (by kernel_rfl))
  f181 := Tryz.func256.trans (congrArg some (by kernel_rfl))
  f184 := Tryz.func246.trans (congrArg some (by kernel_rfl))
  f251 := Tryz.func254.trans (congrArg some (by kernel_rfl))
  f252 := Tryz.func255.trans (congrArg some (by kernel_rfl))
  f290 := Tryz.func257.trans (congrArg some (by kernel_rfl))
  f324 := Tryz.func258.trans (congrArg some (by kernel_rfl))
  t0 := Tryz.underlying0
  a0 := Tryz.isAgg0
  z0 := Tryz.sizeOf0
  v0 := Tryz.zeroValue0
  t3 := Tryz.underlying3
  a3 := Tryz.isAgg3
  z3 := Tryz.sizeOf3
  v3 := Tryz.zeroValue3
  t4 := Tryz.underlying4
  a4 := Tryz.isAgg4
  z4 := Tryz.sizeOf4
  v4 := Tryz.zeroValue4
  t5 := Tryz.underlying5
  a5 := Tryz.isAgg5
  z5 := Tryz.sizeOf5
  v5 := Tryz.zeroValue5
  t20 := Tryz.underlying20
  a20 := Tryz.isAgg20
  z20 := Tryz.sizeOf20
  v20 := Tryz.zeroValue20
  t37 := Tryz.underlying35
  a37 := Tryz.isAgg35
  z37 := Tryz.sizeOf35
  v37 := Tryz.zeroValue35
  t75 := Tryz.underlying57
  a75 := Tryz.isAgg57
  z75 := Tryz.sizeOf57
  v75 := Tryz.zeroValue57
  t91 := Tryz.underlying70
  a91 := Tryz.isAgg70
  z91 := Tryz.sizeOf70
  v91 := Tryz.zeroValue70
  t93 := Tryz.underlying72
  a93 := Tryz.isAgg72
  z93 := Tryz.sizeOf72
  v93 := Tryz.zeroValue72
  t130 := Tryz.underlying74
  a130 := Tryz.isAgg74
  z130 := Tryz.sizeOf74
  v130 := Tryz.zeroValue74
  t131 := Tryz.underlying265
  a131 := Tryz.isAgg265
  z131 := Tryz.sizeOf265
  v131 := Tryz.zeroValue265
  g14 := by kernel_rfl
  t9 := Tryz.underlying9
  a9 := Tryz.isAgg9
  z9 := Tryz.sizeOf9
  v9 := Tryz.zeroValue9
  t80 := Tryz.underlying59
  a80 := Tryz.isAgg59
  z80 := Tryz.sizeOf59
  v80 := Tryz.zeroValue59
  i0 := by kernel_rfl
  i3 := by kernel_rfl
  i4 := by kernel_rfl
  i5 := by kernel_rfl
  i9 := by kernel_rfl
  i20 := by kernel_rfl
  i37 := by kernel_rfl
  i75 := by kernel_rfl
  i80 := by kernel_rfl
  i91 := by kernel_rfl
  i93 := by kernel_rfl
  i130 := by kernel_rfl
  i131 := by kernel_rfl
  m14 := by kernel_rfl }
open Go.RowKit in
/-- (*bytes.Buffer).WriteByte: "WriteByte appends the byte c to the buffer, growing the buffer as needed. The returned error is always nil". (LAID: no walk: one application.) -/
theorem Tryz.Buffer_WriteByte_kept (B b : Nat) (bs : List Value) (c : Int) (w : World) (h : Lib.IsBuffer 72 5 B b bs w) (hBw : B ≤ w.heap.size) (h1 : ∀ v ∈ bs, v.oneCell' = true) (hlim : bs.length + 1 ≤ 140737488355328) :
    Calls Tryz.prog 267 #[.pointer (some ⟨b, 0, none⟩), .int .u8 c] w fun e w' => e = .returned .nilIface ∧ Lib.IsBuffer 72 5 B b (bs ++ [.int .u8 c]) w' ∧ Below B w w' ∧ Lib.OthersKept 5 (some b) w w' := Any.Buffer_WriteByte_kept Tryz.laysM179 B b bs c w h hBw h1 hlim
def Tryz.laysM178_ren : Go.Shelf.Ren := ⟨fun | 178 => 253 | 251 => 254 | 252 => 255 | 181 => 256 | 184 => 246 | 290 => 257 | 324 => 258 | n => n, fun | 130 => 74 | 9 => 9 | 3 => 3 | 75 => 57 | 0 => 0 | 93 => 72 | 91 => 70 | 131 => 265 | 4 => 4 | 37 => 35 | 20 => 20 | 80 => 59 | 5 => 5 | n => n, fun | 14 => 9 | n => n⟩
theorem Tryz.laysM178 : Go.Proofs.LaysM.n178 Tryz.prog Tryz.laysM178_ren := {
  mixed := by kernel_rfl
  f178 := Tryz.func253.trans (congrArg some (by kernel_rfl))
  f181 := Tryz.func256.trans (congrArg some (by kernel_rfl))
  f184 := Tryz.func246.trans (congrArg some (by kernel_rfl))
  f251 := Tryz.func254.trans (congrArg some (by kernel_rfl))
  f252 := Tryz.func255.trans (congrArg some (by kernel_rfl))
  f290 := Tryz.func257.trans (congrArg some (by kernel_rfl))
  f324 := Tryz.func258.trans (congrArg some (by kernel_rfl))
  t0 := Tryz.underlying0
  a0 := Tryz.isAgg0
  z0 := Tryz.sizeOf0
  v0 := Tryz.zeroValue0
  t3 := Tryz.underlying3
  a3 := Tryz.isAgg3
  z3 := Tryz.sizeOf3
  v3 := Tryz.zeroValue3
  t4 := Tryz.underlying4
  a4 := Tryz.isAgg4
  z4 := Tryz.sizeOf4
  v4 := Tryz.zeroValue4
  t9 := Tryz.underlying9
  a9 := Tryz.isAgg9
  z9 := Tryz.sizeOf9
  v9 := Tryz.zeroValue9
  t20 := Tryz.underlying20
  a20 := Tryz.isAgg20
  z20 := Tryz.sizeOf20
  v20 := Tryz.zeroValue20
  t37 := Tryz.underlying35
  a37 := Tryz.isAgg35
  z37 := Tryz.sizeOf35
  v37 := Tryz.zeroValue35
  t75 := Tryz.underlying57
  a75 := Tryz.isAgg57
  z75 := Tryz.sizeOf57
  v75 := Tryz.zeroValue57
  t91 := Tryz.underlying70
  a91 := Tryz.isAgg70
  z91 := Tryz.sizeOf70
  v91 := Tryz.zeroValue70
  t93 := Tryz.underlying72
  a93 := Tryz.isAgg72
  z93 := Tryz.sizeOf72
  v93 := Tryz.zeroValue72
  t130 := Tryz.underlying74
  a130 := Tryz.isAgg74
  z130 := Tryz.sizeOf74
  v130 := Tryz.zeroValue74
  t131 := Tryz.underlying265
  a131 := Tryz.isAgg265
  z131 := Tryz.sizeOf265
  v131 := Tryz.zeroValue265
  g14 := by kernel_rfl
  t5 := Tryz.underlying5
  a5 := Tryz.isAgg5
  z5 := Tryz.sizeOf5
  v5 := Tryz.zeroValue5
  t80 := Tryz.underlying59
  a80 := Tryz.isAgg59
  z80 := Tryz.sizeOf59
  v80 := Tryz.zeroValue59
  i0 := by kernel_rfl
  i3 := by kernel_rfl
  i4 := by kernel_rfl
  i5 := by kernel_rfl
  i9 := by kernel_rfl
  i20 := by kernel_rfl
  i37 := by kernel_rfl
  i75 := by kernel_rfl
  i80 := by kernel_rfl
  i91 := by kernel_rfl
  i93 := by kernel_rfl
  i130 := by kernel_rfl
  i131 := by kernel_rfl
  m14 := by kernel_rfl }
open Go.RowKit in
/-- (*bytes.Buffer).WriteString: "WriteString appends the contents of s to the buffer, growing the buffer as needed. The return value n is the length of s; err is always nil." (LAID: no walk: one application.) -/
theorem Tryz.Buffer_WriteString_kept (B b : Nat) (bs : List Value) (s : ByteArray) (w : World) (h : Lib.IsBuffer 72 5 B b bs w) (hBw : B ≤ w.heap.size) (h1 : ∀ v ∈ bs, v.oneCell' = true) (hlim : bs.length + s.size ≤ 140737488355328) :
    Calls Tryz.prog 253 #[.pointer (some ⟨b, 0, none⟩), .string s] w fun e w' => e = .returned (.tuple #[.int .i64 s.size, .nilIface]) ∧ Lib.IsBuffer 72 5 B b (bs ++ Lib.byteCells s.data.toList) w' ∧ Below B w w' ∧ Lib.OthersKept 5 (some b) w w' := Any.Buffer_WriteString_kept Tryz.laysM178 B b bs s w h hBw h1 hlim
def Tryz.laysM184_ren : Go.Shelf.Ren := ⟨fun | 184 => 246 | n => n, fun | 130 => 74 | 0 => 0 | 93 => 72 | 37 => 35 | 3 => 3 | 91 => 70 | 5 => 5 | n => n, fun | n => n⟩
theorem Tryz.laysM184 : Go.Proofs.LaysM.n184 Tryz.prog Tryz.laysM184_ren := {
  mixed := by kernel_rfl
  f184 := Tryz.func246.trans (congrArg some (by kernel_rfl))
  t0 := Tryz.underlying0
  a0 := Tryz.isAgg0
  z0 := Tryz.sizeOf0
  v0 := Tryz.zeroValue0
  t3 := Tryz.underlying3
  a3 := Tryz.isAgg3
  z3 := Tryz.sizeOf3
  v3 := Tryz.zeroValue3
  t37 := Tryz.underlying35
  a37 := Tryz.isAgg35
  z37 := Tryz.sizeOf35
  v37 := Tryz.zeroValue35
  t91 := Tryz.underlying70
  a91 := Tryz.isAgg70
  z91 := Tryz.sizeOf70
  v91 := Tryz.zeroValue70
  t93 := Tryz.underlying72
  a93 := Tryz.isAgg72
  z93 := Tryz.sizeOf72
  v93 := Tryz.zeroValue72
  t130 := Tryz.underlying74
  a130 := Tryz.isAgg74
  z130 := Tryz.sizeOf74
  v130 := Tryz.zeroValue74
  t5 := Tryz.underlying5
  a5 := Tryz.isAgg5
  z5 := Tryz.sizeOf5
  v5 := Tryz.zeroValue5
  i0 := by kernel_rfl
  i3 := by kernel_rfl
  i5 := by kernel_rfl
  i37 := by kernel_rfl
  i91 := by kernel_rfl
  i93 := by kernel_rfl
  i130 := by kernel_rfl }
open Go.RowKit in
/-- (*bytes.Buffer).Reset: "Reset resets the buffer to be empty, but it retains the underlying storage for use by future writes." (LAID: no walk: one application.) -/
theorem Tryz.Buffer_Reset_kept (B b : Nat) (bs : List Value) (w : World) (h : Lib.IsBuffer 72 5 B b bs w) :
    Calls Tryz.prog 246 #[.pointer (some ⟨b, 0, none⟩)] w fun e w' => e = .returned (.tuple #[]) ∧ Lib.IsBuffer 72 5 B b [] w' ∧ Below B w w' ∧ Lib.OthersKept 5 (some b) w w' := Any.Buffer_Reset_kept Tryz.laysM184 B b bs w h
open Go.RowKit in
theorem Tryz.Buffer_WriteByte_k (B b : Nat) (bs : List Value) (c : Int) (w : World) (h : Lib.IsBuffer 72 5 B b bs w) (hBw : B ≤ w.heap.size) (h1 : ∀ v ∈ bs, v.oneCell' = true) (hlim : bs.length + 1 ≤ 140737488355328) :
    Calls Tryz.prog 267 #[.pointer (some ⟨b, 0, none⟩), .int .u8 c] w fun e w' => e = .returned .nilIface ∧ Lib.IsBuffer 72 5 B b (bs ++ [.int .u8 c]) w' ∧ Below B w w' ∧ Lib.OthersKept 5 (some b) w w' := Any.Buffer_WriteByte_k Tryz.laysM179 B b bs c w h hBw h1 hlim
open Go.RowKit in
theorem Tryz.Buffer_WriteString_k (B b : Nat) (bs : List Value) (s : ByteArray) (w : World) (h : Lib.IsBuffer 72 5 B b bs w) (hBw : B ≤ w.heap.size) (h1 : ∀ v ∈ bs, v.oneCell' = true) (hlim : bs.length + s.size ≤ 140737488355328) :
    Calls Tryz.prog 253 #[.pointer (some ⟨b, 0, none⟩), .string s] w fun e w' => e = .returned (.tuple #[.int .i64 s.size, .nilIface]) ∧ Lib.IsBuffer 72 5 B b (bs ++ Lib.byteCells s.data.toList) w' ∧ Below B w w' ∧ Lib.OthersKept 5 (some b) w w' := Any.Buffer_WriteString_k Tryz.laysM178 B b bs s w h hBw h1 hlim
open Go.RowKit in
theorem Tryz.Buffer_Reset_k (B b : Nat) (bs : List Value) (w : World) (h : Lib.IsBuffer 72 5 B b bs w) :
    Calls Tryz.prog 246 #[.pointer (some ⟨b, 0, none⟩)] w fun e w' => e = .returned (.tuple #[]) ∧ Lib.IsBuffer 72 5 B b [] w' ∧ Below B w w' ∧ Lib.OthersKept 5 (some b) w w' := Any.Buffer_Reset_k Tryz.laysM184 B b bs w h
def Tryz.lays264_ren : Go.Shelf.Ren := ⟨fun | 264 => 56 | n => n, fun | 53 => 83 | 46 => 60 | n => n, fun | n => n⟩
theorem Tryz.lays264 : Go.Proofs.Lays.n264 Tryz.prog Tryz.lays264_ren := {
  mixed := by kernel_rfl
  f264 := Tryz.func56.trans (congrArg some (by kernel_rfl))
  t46 := Tryz.underlying60
  a46 := Tryz.isAgg60
  z46 := Tryz.sizeOf60
  v46 := Tryz.zeroValue60
  t53 := Tryz.underlying83
  a53 := Tryz.isAgg83
  z53 := Tryz.sizeOf83
  v53 := Tryz.zeroValue83 }
open Go.RowKit Go.Lib in
theorem Tryz.bits_Mul64 (x y : Nat) (hx : x < 18446744073709551616) (hy : y < 18446744073709551616) (w : World) :
    Calls Tryz.prog 56 #[.int .u64 x, .int .u64 y] w fun e w' => e = .returned (.tuple #[.int .u64 ((x * y / 18446744073709551616 : Nat) : Int), .int .u64 ((x * y % 18446744073709551616 : Nat) : Int)]) ∧ w' = w := Any.bits_Mul64 Tryz.lays264 x y hx hy w
def Tryz.lays212_ren : Go.Shelf.Ren := ⟨fun | 212 => 44 | 263 => 55 | 264 => 56 | n => n, fun | 46 => 60 | 51 => 80 | 146 => 81 | 53 => 83 | 148 => 84 | n => n, fun | n => n⟩
theorem Tryz.lays212 : Go.Proofs.Lays.n212 Tryz.prog Tryz.lays212_ren := {
  mixed := by kernel_rfl
  f212 := Tryz.func44.trans (congrArg some (by kernel_rfl))
  f263 := Tryz.func55.trans (congrArg some (by kernel_rfl))
  f264 := Tryz.func56.trans (congrArg some (by kernel_rfl))
  t46 := Tryz.underlying60
  a46 := Tryz.isAgg60
  z46 := Tryz.sizeOf60
  v46 := Tryz.zeroValue60
  t51 := Tryz.underlying80
  a51 := Tryz.isAgg80
  z51 := Tryz.sizeOf80
  v51 := Tryz.zeroValue80
  t53 := Tryz.underlying83
  a53 := Tryz.isAgg83
  z53 := Tryz.sizeOf83
  v53 := Tryz.zeroValue83
  t146 := Tryz.underlying81
  a146 := Tryz.isAgg81
  z146 := Tryz.sizeOf81
  v146 := Tryz.zeroValue81
  t148 := Tryz.underlying84
  a148 := Tryz.isAgg84
  z148 := Tryz.sizeOf84
  v148 := Tryz.zeroValue84 }
open Go.RowKit Go.Lib in
/-- math/bits.Mul: "Mul returns the full-width product of x and y": on a machine of 64 bits: Mul64's. (LAID: no walk: one application.) -/
theorem Tryz.bits_Mul (x y : Nat) (hx : x < 18446744073709551616) (hy : y < 18446744073709551616) (w : World) :
    Calls Tryz.prog 44 #[.int .u64 x, .int .u64 y] w fun e w' => e = .returned (.tuple #[.int .u64 ((x * y / 18446744073709551616 : Nat) : Int), .int .u64 ((x * y % 18446744073709551616 : Nat) : Int)]) ∧ w' = w := Any.bits_Mul Tryz.lays212 x y hx hy w
def Tryz.lays260_ren : Go.Shelf.Ren := ⟨fun | 260 => 169 | n => n, fun | 9 => 9 | 21 => 21 | 3 => 3 | 4 => 4 | 5 => 5 | 119 => 288 | 0 => 0 | 46 => 60 | 139 => 291 | 138 => 290 | n => n, fun | 3 => 2 | 4 => 3 | n => n⟩
theorem Tryz.lays260 : Go.Proofs.Lays.n260 Tryz.prog Tryz.lays260_ren := {
  mixed := by kernel_rfl
  f260 := Tryz.func169.trans (congrArg some (by kernel_rfl))
  t0 := Tryz.underlying0
  a0 := Tryz.isAgg0
  z0 := Tryz.sizeOf0
  v0 := Tryz.zeroValue0
  t3 := Tryz.underlying3
  a3 := Tryz.isAgg3
  z3 := Tryz.sizeOf3
  v3 := Tryz.zeroValue3
  t4 := Tryz.underlying4
  a4 := Tryz.isAgg4
  z4 := Tryz.sizeOf4
  v4 := Tryz.zeroValue4
  t5 := Tryz.underlying5
  a5 := Tryz.isAgg5
  z5 := Tryz.sizeOf5
  v5 := Tryz.zeroValue5
  t9 := Tryz.underlying9
  a9 := Tryz.isAgg9
  z9 := Tryz.sizeOf9
  v9 := Tryz.zeroValue9
  t21 := Tryz.underlying21
  a21 := Tryz.isAgg21
  z21 := Tryz.sizeOf21
  v21 := Tryz.zeroValue21
  t46 := Tryz.underlying60
  a46 := Tryz.isAgg60
  z46 := Tryz.sizeOf60
  v46 := Tryz.zeroValue60
  t119 := Tryz.underlying288
  a119 := Tryz.isAgg288
  z119 := Tryz.sizeOf288
  t138 := Tryz.underlying290
  a138 := Tryz.isAgg290
  z138 := Tryz.sizeOf290
  v138 := Tryz.zeroValue290
  t139 := Tryz.underlying291
  a139 := Tryz.isAgg291
  z139 := Tryz.sizeOf291
  v139 := Tryz.zeroValue291
  g3 := by kernel_rfl
  g4 := by kernel_rfl }
open Go.RowKit Go.Lib in
theorem Tryz.utf8_decodeRuneInStringSlow (s : ByteArray) (w : World) (hT : Lib.Utf8Tabs 2 3 w) :
    Calls Tryz.prog 169 #[.string s] w fun e w' => e = .returned (.tuple #[.int .i32 (Lib.decodeGo s).1, .int .i64 (Lib.decodeGo s).2]) ∧ Below w.heap.size w w' := Any.utf8_decodeRuneInStringSlow Tryz.lays260 s w hT
end Go.Proofs

/- zzPairs.WriteString of the HTML escaper's table. -/
namespace Go.Proofs.YtdnlfdppjfjncaaGreatDoor
open Go Go.RowKit Go.Proofs

def escN (s : ByteArray) (i : Nat) : List UInt8 := (s.data.toList.take i).flatMap escB

theorem blk_others {w w' : World} {k b T : Nat} {cs : Array Value} (h : Blk w k cs T) (ho : Lib.OthersKept 5 (some b) w w') (hk : k ≠ b) (hT : T ≠ 5) : Blk w' k cs T :=
  ho k _ h (fun e => hk (Option.some.inj e)) (fun c fz e => by cases e; exact hT rfl)

/-- The buffer, and what a writer leaves. -/
structure Wrote (w w' : World) (B b : Nat) (l : List UInt8) : Prop where
  buf : Lib.IsBuffer 72 5 B b (Lib.byteCells l) w'
  below : Below B w w'
  others : Lib.OthersKept 5 (some b) w w'

theorem Wrote.trans {a c d : World} {B b : Nat} {l m : List UInt8} (h : Wrote a c B b l) (k : Wrote c d B b m) : Wrote a d B b m := ⟨k.buf, h.below.trans k.below, h.others.trans k.others⟩

theorem write_string (B b : Nat) (l : List UInt8) (s : ByteArray) (w : World) (h : Lib.IsBuffer 72 5 B b (Lib.byteCells l) w) (hB : B ≤ w.heap.size) (hl : l.length ≤ 100000000) (hs : s.size ≤ 100000000) :
    Calls Tryz.prog 253 #[.pointer (some ⟨b, 0, none⟩), .string s] w fun e w' => e = .returned (.tuple #[.int .i64 s.size, .nilIface]) ∧ Wrote w w' B b (l ++ s.data.toList) := by
  have hlen : (Lib.byteCells l).length = l.length := by simp [Lib.byteCells]
  refine (Tryz.Buffer_WriteString_k B b _ s w h hB (Lib.byteCells_one _) (by omega)).mono ?_
  rintro e w' ⟨h1, h2, h3, h4⟩
  exact ⟨h1, by rw [Lib.byteCells_append]; exact h2, h3, h4⟩

theorem write_byte (B b : Nat) (l : List UInt8) (c : UInt8) (w : World) (h : Lib.IsBuffer 72 5 B b (Lib.byteCells l) w) (hB : B ≤ w.heap.size) (hl : l.length ≤ 100000000) :
    Calls Tryz.prog 267 #[.pointer (some ⟨b, 0, none⟩), .int .u8 c.toNat] w fun e w' => e = .returned .nilIface ∧ Wrote w w' B b (l ++ [c]) := by
  have hlen : (Lib.byteCells l).length = l.length := by simp [Lib.byteCells]
  refine (Tryz.Buffer_WriteByte_k B b _ _ w h hB (Lib.byteCells_one _) (by omega)).mono ?_
  rintro e w' ⟨h1, h2, h3, h4⟩
  exact ⟨h1, by simpa [Lib.byteCells] using h2, h3, h4⟩

theorem Wrote.drewN {w w1 : World} {B b : Nat} {l : List UInt8} (h : Wrote w w1 B b l) (n : Nat) : Wrote w (w1.drewN n) B b l :=
  ⟨h.buf, ⟨h.below.os, h.below.tape, h.below.output, h.below.size, h.below.block⟩, h.others⟩

theorem escN_succ (s : ByteArray) (i : Nat) (h : i < s.size) : escN s (i + 1) = escN s i ++ escB s[i] := by
  unfold escN
  have h' : i < s.data.toList.length := by simpa using h
  rw [List.take_succ_eq_append_getElem h', List.flatMap_append]
  simp
  rfl

theorem escN_len (s : ByteArray) : ∀ i, i ≤ s.size → (escN s i).length ≤ 6 * i
  | 0, _ => by simp [escN]
  | i + 1, h => by
    have h1 := escN_len s i (by omega)
    rw [escN_succ s i (by omega), List.length_append]
    have : (escB (s[i]'(by omega))).length ≤ 6 := by
      unfold escB
      repeat' split
      all_goals simp
    omega

theorem escN_bound {l : List UInt8} {s : ByteArray} {i : Nat} (hl : l.length ≤ 10000000) (hi : i ≤ s.size) (hs : s.size ≤ 1000000) : (l ++ escN s i).length ≤ 100000000 := by
  have := escN_len s i hi
  rw [List.length_append]
  omega

theorem ne_byte {c : UInt8} {k : Nat} (h : c ≠ UInt8.ofNat k) : ((c.toNat : Int) == ((UInt8.ofNat k).toNat : Int)) = false :=
  beq_eq_false_iff_ne.2 (fun he => h (UInt8.toNat_inj.1 (by omega)))

set_option maxRecDepth 100000 in
set_option maxHeartbeats 8000000 in
theorem esc_write (B b K : Nat) (l : List UInt8) (s : ByteArray) (w : World) (h : Lib.IsBuffer 72 5 B b (Lib.byteCells l) w) (hB : B ≤ w.heap.size) (hl : l.length ≤ 10000000) (hs : s.size ≤ 1000000) (hK : Blk w K escCells 9) (hKb : K ≠ b) :
    Calls Tryz.prog 266 #[.slice (some ⟨K, 0, none⟩) 8 8, .pointer (some ⟨b, 0, none⟩), .string s] w fun e w' => e = .returned (.tuple #[]) ∧ Wrote w w' B b (l ++ escN s s.size) := by
  go_enter Tryz.func266, Tryz.ntmps266
  go_wp2_with fail
  go_step3
  go_wp2_with fail
  go_step3
  go_wp2_with fail
  go_loopg [6] s.size (fun m v6 wr => ∃ i : Nat, v6 = .int .i64 i ∧ m = s.size - i ∧ i ≤ s.size ∧ Wrote w wr B b (l ++ escN s i))
  case atStart => exact ⟨0, rfl, rfl, Nat.zero_le _, by simpa [escN] using h, Below.refl _ _, Lib.OthersKept.refl _ _ _⟩
  case round =>
    obtain ⟨i, rfl, rfl, hi, hW⟩ := hrel
    have hK1 := blk_others hK hW.others hKb (by decide)
    have HW := Lib.hid hW
    clear hW
    by_cases hlt : i < s.size
    · have w1 : (i : Int) < s.size := by omega
      have w2 : (0 : Int) ≤ i := by omega
      have w3 : IntKind.i64.wrap ((i : Int) + 1) = (i : Int) + 1 := IntWalk.i64_in _ (by omega)
      go_wp2_with fail
      go_loopg [7] 4 (fun m v7 wx => (Wrote w wx B b (l ++ escN s i) ∧ Blk wx K escCells 9) ∧ ((m = 4 ∧ v7 = .int .i64 0) ∨ (m = 3 ∧ v7 = .int .i64 2 ∧ s[i] ≠ 34) ∨ (m = 2 ∧ v7 = .int .i64 4 ∧ s[i] ≠ 34 ∧ s[i] ≠ 38) ∨ (m = 1 ∧ v7 = .int .i64 6 ∧ s[i] ≠ 34 ∧ s[i] ≠ 38 ∧ s[i] ≠ 60) ∨ (m = 0 ∧ v7 = .int .i64 8 ∧ s[i] ≠ 34 ∧ s[i] ≠ 38 ∧ s[i] ≠ 60 ∧ s[i] ≠ 62)))
      case atStart => exact ⟨⟨HW.out, hK1⟩, Or.inl ⟨rfl, rfl⟩⟩
      case round =>
        clear HW hK1
        obtain ⟨⟨hW2, hK2⟩, hr⟩ := hrel
        have HW := Lib.hid hW2
        clear hW2
        have k0 : wr.cell? ⟨K, 0, none⟩ = some (.string ⟨#[34]⟩) := hK2.cell 0
        have k1 : wr.cell? ⟨K, 1, none⟩ = some (.string ⟨#[38, 113, 117, 111, 116, 59]⟩) := hK2.cell 1
        have k2 : wr.cell? ⟨K, 2, none⟩ = some (.string ⟨#[38]⟩) := hK2.cell 2
        have k3 : wr.cell? ⟨K, 3, none⟩ = some (.string ⟨#[38, 97, 109, 112, 59]⟩) := hK2.cell 3
        have k4 : wr.cell? ⟨K, 4, none⟩ = some (.string ⟨#[60]⟩) := hK2.cell 4
        have k5 : wr.cell? ⟨K, 5, none⟩ = some (.string ⟨#[38, 108, 116, 59]⟩) := hK2.cell 5
        have k6 : wr.cell? ⟨K, 6, none⟩ = some (.string ⟨#[62]⟩) := hK2.cell 6
        have k7 : wr.cell? ⟨K, 7, none⟩ = some (.string ⟨#[38, 103, 116, 59]⟩) := hK2.cell 7
        rcases hr with ⟨rfl, rfl⟩ | ⟨rfl, rfl, n1⟩ | ⟨rfl, rfl, n1, n2⟩ | ⟨rfl, rfl, n1, n2, n3⟩ | ⟨rfl, rfl, n1, n2, n3, n4⟩
        · have z : (((⟨#[34]⟩ : ByteArray)[0]'(by decide)).toNat : Int) = 34 := rfl
          by_cases hc : s[i] = 34
          · have hcb : ((s[i].toNat : Int) == 34) = true := by rw [hc]; rfl
            have hesc : escN s (i + 1) = escN s i ++ (#[38, 113, 117, 111, 116, 59] : Array UInt8).toList := by rw [escN_succ s i hlt, hc]; rfl
            have Hc := Lib.hid hesc
            clear hc hesc
            go_wp2_with fail
            go_quiet (fail)
            go_wp2_with fail
            refine (write_string B b _ ⟨#[38, 113, 117, 111, 116, 59]⟩ _ (HW.out.drewN nq).buf (Nat.le_trans hB (HW.out.drewN nq).below.size) (escN_bound hl hi hs) (by decide)).mono ?_
            rintro e w5 ⟨rfl, hW5⟩
            go_wp2_with fail
            go_roundg (s.size - (i + 1))
            case measure => omega
            case rel => exact ⟨i + 1, by simp, rfl, by omega, by rw [Hc.out, ← List.append_assoc]; exact (HW.out.drewN nq).trans hW5⟩
          · have hcb : ((s[i].toNat : Int) == 34) = false := ne_byte hc
            have Hc := Lib.hid hc
            clear hc
            go_wp2_with fail
            go_quiet (fail)
            go_wp2_with fail
            go_roundg 3
            case measure => omega
            case rel => exact ⟨⟨HW.out.drewN nq, hK2.drewN nq⟩, Or.inr (Or.inl ⟨rfl, rfl, Hc.out⟩)⟩
        · have Hn1 := Lib.hid n1
          clear n1
          have z : (((⟨#[38]⟩ : ByteArray)[0]'(by decide)).toNat : Int) = 38 := rfl
          by_cases hc : s[i] = 38
          · have hcb : ((s[i].toNat : Int) == 38) = true := by rw [hc]; rfl
            have hesc : escN s (i + 1) = escN s i ++ (#[38, 97, 109, 112, 59] : Array UInt8).toList := by rw [escN_succ s i hlt, hc]; rfl
            have Hc := Lib.hid hesc
            clear hc hesc
            go_wp2_with fail
            go_quiet (fail)
            go_wp2_with fail
            refine (write_string B b _ ⟨#[38, 97, 109, 112, 59]⟩ _ (HW.out.drewN nq).buf (Nat.le_trans hB (HW.out.drewN nq).below.size) (escN_bound hl hi hs) (by decide)).mono ?_
            rintro e w5 ⟨rfl, hW5⟩
            go_wp2_with fail
            go_roundg (s.size - (i + 1))
            case measure => omega
            case rel => exact ⟨i + 1, by simp, rfl, by omega, by rw [Hc.out, ← List.append_assoc]; exact (HW.out.drewN nq).trans hW5⟩
          · have hcb : ((s[i].toNat : Int) == 38) = false := ne_byte hc
            have Hc := Lib.hid hc
            clear hc
            go_wp2_with fail
            go_quiet (fail)
            go_wp2_with fail
            go_roundg 2
            case measure => omega
            case rel => exact ⟨⟨HW.out.drewN nq, hK2.drewN nq⟩, Or.inr (Or.inr (Or.inl ⟨rfl, rfl, Hn1.out, Hc.out⟩))⟩
        · have Hn1 := Lib.hid n1
          have Hn2 := Lib.hid n2
          clear n1 n2
          have z : (((⟨#[60]⟩ : ByteArray)[0]'(by decide)).toNat : Int) = 60 := rfl
          by_cases hc : s[i] = 60
          · have hcb : ((s[i].toNat : Int) == 60) = true := by rw [hc]; rfl
            have hesc : escN s (i + 1) = escN s i ++ (#[38, 108, 116, 59] : Array UInt8).toList := by rw [escN_succ s i hlt, hc]; rfl
            have Hc := Lib.hid hesc
            clear hc hesc
            go_wp2_with fail
            go_quiet (fail)
            go_wp2_with fail
            refine (write_string B b _ ⟨#[38, 108, 116, 59]⟩ _ (HW.out.drewN nq).buf (Nat.le_trans hB (HW.out.drewN nq).below.size) (escN_bound hl hi hs) (by decide)).mono ?_
            rintro e w5 ⟨rfl, hW5⟩
            go_wp2_with fail
            go_roundg (s.size - (i + 1))
            case measure => omega
            case rel => exact ⟨i + 1, by simp, rfl, by omega, by rw [Hc.out, ← List.append_assoc]; exact (HW.out.drewN nq).trans hW5⟩
          · have hcb : ((s[i].toNat : Int) == 60) = false := ne_byte hc
            have Hc := Lib.hid hc
            clear hc
            go_wp2_with fail
            go_quiet (fail)
            go_wp2_with fail
            go_roundg 1
            case measure => omega
            case rel => exact ⟨⟨HW.out.drewN nq, hK2.drewN nq⟩, Or.inr (Or.inr (Or.inr (Or.inl ⟨rfl, rfl, Hn1.out, Hn2.out, Hc.out⟩)))⟩
        · have Hn1 := Lib.hid n1
          have Hn2 := Lib.hid n2
          have Hn3 := Lib.hid n3
          clear n1 n2 n3
          have z : (((⟨#[62]⟩ : ByteArray)[0]'(by decide)).toNat : Int) = 62 := rfl
          by_cases hc : s[i] = 62
          · have hcb : ((s[i].toNat : Int) == 62) = true := by rw [hc]; rfl
            have hesc : escN s (i + 1) = escN s i ++ (#[38, 103, 116, 59] : Array UInt8).toList := by rw [escN_succ s i hlt, hc]; rfl
            have Hc := Lib.hid hesc
            clear hc hesc
            go_wp2_with fail
            go_quiet (fail)
            go_wp2_with fail
            refine (write_string B b _ ⟨#[38, 103, 116, 59]⟩ _ (HW.out.drewN nq).buf (Nat.le_trans hB (HW.out.drewN nq).below.size) (escN_bound hl hi hs) (by decide)).mono ?_
            rintro e w5 ⟨rfl, hW5⟩
            go_wp2_with fail
            go_roundg (s.size - (i + 1))
            case measure => omega
            case rel => exact ⟨i + 1, by simp, rfl, by omega, by rw [Hc.out, ← List.append_assoc]; exact (HW.out.drewN nq).trans hW5⟩
          · have hcb : ((s[i].toNat : Int) == 62) = false := ne_byte hc
            have Hc := Lib.hid hc
            clear hc
            go_wp2_with fail
            go_quiet (fail)
            go_wp2_with fail
            go_roundg 0
            case measure => omega
            case rel => exact ⟨⟨HW.out.drewN nq, hK2.drewN nq⟩, Or.inr (Or.inr (Or.inr (Or.inr (⟨rfl, rfl, Hn1.out, Hn2.out, Hn3.out, Hc.out⟩))))⟩
        · have hesc : escN s (i + 1) = escN s i ++ [s[i]] := by rw [escN_succ s i hlt]; unfold escB; rw [if_neg n1, if_neg n2, if_neg n3, if_neg n4]
          have Hc := Lib.hid hesc
          clear n1 n2 n3 n4 hesc
          go_wp2_with fail
          refine (write_byte B b _ s[i] _ HW.out.buf (Nat.le_trans hB HW.out.below.size) (escN_bound hl hi hs)).mono ?_
          rintro e w5 ⟨rfl, hW5⟩
          go_wp2_with fail
          go_roundg (s.size - (i + 1))
          case measure => omega
          case rel => exact ⟨i + 1, by simp, rfl, by omega, by rw [Hc.out, ← List.append_assoc]; exact HW.out.trans hW5⟩
    · have hin : i = s.size := by omega
      have w1 : ¬ ((i : Int) < s.size) := by omega
      subst hin
      go_wp2_with fail
      go_end0
      exact ⟨rfl, HW.out⟩
end Go.Proofs.YtdnlfdppjfjncaaGreatDoor
