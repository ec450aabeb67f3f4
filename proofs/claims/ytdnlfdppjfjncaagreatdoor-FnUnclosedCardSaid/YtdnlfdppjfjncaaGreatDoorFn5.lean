/- Some texts of one proof, put into one file: Trim, State4, AddLine, Head, Parse, Print. -/
import Derived.Deep.LoopGhost
import Derived.Test.YtdnlfdppjfjncaaGreatDoorFn2
import Derived.Test.YtdnlfdppjfjncaaGreatDoorFn4
/- trimSpaceTab of a text that neither begins nor ends with white space. -/
namespace Go.Proofs.YtdnlfdppjfjncaaGreatDoor
open Go Go.RowKit Go.Proofs

theorem ext_all (s : ByteArray) : s.extract 0 s.size = s := by simp

set_option maxHeartbeats 2000000 in
theorem trimSpaceTab_id (s : ByteArray) (w : World) (hs : s.size ≤ 1000000) (h0 : 0 < s.size) (h1 : isW s[0] = false) (h2 : isW (s[s.size - 1]'(by omega)) = false) :
    Calls Tryz.prog 74 #[.string s] w fun e w' => e = .returned (.string s) ∧ w = w' := by
  obtain ⟨a1, a2⟩ := isW_no h1
  obtain ⟨b1, b2⟩ := isW_no h2
  clear h1 h2
  have w1 : (0 : Int) < s.size := by omega
  have w2 : IntKind.i64.wrap ((s.size : Int) - 1) = (s.size : Int) - 1 := IntWalk.i64_in _ (by omega)
  have w3 : (0 : Int) ≤ (s.size : Int) - 1 := by omega
  have w4 : ((s.size : Int) - 1).toNat = s.size - 1 := by omega
  have w5 : (s.size : Int) - 1 < s.size := by omega
  have he := ext_all s
  go_enter Tryz.func74, Tryz.ntmps74
  go_wp2_with fail
  go_loopg [3] 0 (fun k v wr => v = .int .i64 0 ∧ w = wr)
  case atStart => exact ⟨rfl, rfl⟩
  case round =>
    obtain ⟨rfl, rfl⟩ := hrel
    go_wp2_with fail
    go_loopg [4] 0 (fun k v wr => v = .int .i64 s.size ∧ w = wr)
    case atStart => exact ⟨rfl, rfl⟩
    case round =>
      obtain ⟨rfl, rfl⟩ := hrel
      go_wp2_with fail
      go_ret
      exact ⟨rfl, rfl⟩
end Go.Proofs.YtdnlfdppjfjncaaGreatDoor

/- The trial for an item of a list, where the line begins none. -/
namespace Go.Proofs.YtdnlfdppjfjncaaGreatDoor
open Go Go.RowKit Go.Proofs

/-- The byte is no bullet and no digit. -/
def NoItem (c : UInt8) : Prop := ∀ k ∈ [(45 : Int), 42, 43, 48, 49, 50, 51, 52, 53, 54, 55, 56, 57], (c.toNat : Int) ≠ k

def IRel (w wr : World) (bt : Nat) (text : ByteArray) (i k : Nat) (nl : Int) : Prop :=
  k ≤ 3 ∧ lead text i k = k ∧ Same w wr ∧ LineAt wr bt (i + k) text nl

set_option maxRecDepth 100000 in
set_option maxHeartbeats 2000000 in
theorem startListItem_no (b bp : Nat) (text : ByteArray) (i : Nat) (nl : Int) (w : World) (hi : i ≤ text.size) (hT : Txt text) (hL : LineAt w b i text nl)
    (hc : NoItem (at0 text (p3 text i))) :
    Calls Tryz.prog 149 #[.pointer (some ⟨bp, 0, none⟩), .pointer (some ⟨b, 0, none⟩)] w fun e w' => e = .returned (.bool false) ∧ Same w w' := by
  obtain ⟨h0, h1, h2, h3, h4, hf0, hf1, hf2, hf3, hf4, hbl⟩ := hL.facts
  have c1 := bne_of (hc 45 (by decide))
  have c2 := bne_of (hc 42 (by decide))
  have c3 := bne_of (hc 43 (by decide))
  have d0 := bne_of (hc 48 (by decide))
  have d1 := bne_of (hc 49 (by decide))
  have d2 := bne_of (hc 50 (by decide))
  have d3 := bne_of (hc 51 (by decide))
  have d4 := bne_of (hc 52 (by decide))
  have d5 := bne_of (hc 53 (by decide))
  have d6 := bne_of (hc 54 (by decide))
  have d7 := bne_of (hc 55 (by decide))
  have d8 := bne_of (hc 56 (by decide))
  have d9 := bne_of (hc 57 (by decide))
  clear hc
  go_enter Tryz.func149, Tryz.ntmps149
  go_wp2
  go_step3
  go_wp2
  go_loopg [6, 7] 3 (fun g n j wr => ∃ k : Nat, g = 3 - k ∧ n = .int .i64 k ∧ j = .int .i64 k ∧ IRel w wr (w.heap.size + 1) text i k nl)
  case atStart =>
    refine ⟨0, rfl, rfl, rfl, by omega, rfl, ?_, ?_⟩
    · exact ((Mods.refl _ w).alloc _).alloc _
    · exact Blk.newAt _ _ (by simp)
  case round =>
    obtain ⟨k, hg, rfl, rfl, hk3, hlk, hmw, hlw⟩ := hrel
    have HG := Lib.hid hg
    have HK := Lib.hid hlk
    clear hg hlk h0 h1 h2 h3 h4 hf0 hf1 hf2 hf3 hf4 hL
    have hik : i + k ≤ text.size := by have := (lead_le text k i).2 hi; have := HK.out; omega
    by_cases hlt : k < 3
    · go_wp2_with fail
      refine (trimSpace_11 _ text (i + k) false nl wr hik hT hlw).mono ?_
      rintro e w1 (⟨hs, rfl, hm1, hl1⟩ | ⟨hs, rfl, hm1, hl1⟩)
      · have HS := Lib.hid hs
        clear hs
        go_wp2
        go_roundg (3 - (k + 1))
        case measure => have := HG.out; omega
        case rel =>
          exact ⟨k + 1, rfl, by go_num, by go_num, by omega, lead_one HK.out HS.out, hmw.then hm1 (by intro b hb; omega), hl1⟩
      · have e1 : lead text i 3 = k := by
          have := lead_all (m := 3 - k) HK.out hs
          rwa [show k + (3 - k) = 3 by omega] at this
        have hp : i + k = p3 text i := by unfold p3; rw [e1]
        clear e1 hs
        rw [hp] at hl1
        clear hp
        go_wp2_with fail
        refine (peek_any _ _ _ _ _ hT.size hl1).mono ?_
        rintro e w2 ⟨rfl, n, rfl⟩
        go_wp2
        go_step3
        go_wp2
        try rw [Exit.noGoto_ret]
        go_ret
        exact ⟨rfl, (hmw.then hm1 (by intro b hb; omega)).drewN n⟩
    · have hk : k = 3 := by omega
      subst hk
      have hp : i + 3 = p3 text i := by unfold p3; rw [HK.out]
      rw [hp] at hlw
      clear hp
      go_wp2_with fail
      refine (peek_any _ _ _ _ _ hT.size hlw).mono ?_
      rintro e w2 ⟨rfl, n, rfl⟩
      go_wp2
      go_step3
      go_wp2
      try rw [Exit.noGoto_ret]
      go_ret
      exact ⟨rfl, hmw.drewN n⟩
def isDig (c : UInt8) : Prop := 48 ≤ (c.toNat : Int) ∧ (c.toNat : Int) ≤ 57

/-- Behind the digits that begin at place j stands no full stop and no parenthesis. -/
def NumNo (text : ByteArray) (j : Nat) : Prop :=
  ∀ t, (∀ u, u < t → isDig (at0 text (j + u))) → (at0 text (j + t)).toNat ≠ 46 ∧ (at0 text (j + t)).toNat ≠ 41

def DRel (w wr : World) (bt : Nat) (text : ByteArray) (i t : Nat) (nl : Int) : Prop :=
  p3 text i + t ≤ text.size ∧ (∀ u, u < t → isDig (at0 text (p3 text i + u))) ∧ Same w wr ∧ LineAt wr bt (p3 text i) text nl

theorem dig_cases {c : UInt8} (h : isDig c) : (c.toNat : Int) = 48 ∨ (c.toNat : Int) = 49 ∨ (c.toNat : Int) = 50 ∨ (c.toNat : Int) = 51 ∨ (c.toNat : Int) = 52 ∨
    (c.toNat : Int) = 53 ∨ (c.toNat : Int) = 54 ∨ (c.toNat : Int) = 55 ∨ (c.toNat : Int) = 56 ∨ (c.toNat : Int) = 57 := by
  unfold isDig at h
  omega

theorem dig_last {c : UInt8} (h : isDig c) (h0 : ((c.toNat : Int) == 48) = false) (h1 : ((c.toNat : Int) == 49) = false) (h2 : ((c.toNat : Int) == 50) = false)
    (h3 : ((c.toNat : Int) == 51) = false) (h4 : ((c.toNat : Int) == 52) = false) (h5 : ((c.toNat : Int) == 53) = false) (h6 : ((c.toNat : Int) == 54) = false)
    (h7 : ((c.toNat : Int) == 55) = false) (h8 : ((c.toNat : Int) == 56) = false) : Value.bool ((c.toNat : Int) == 57) = .bool true := by
  rw [beq_eq_false_iff_ne] at h0 h1 h2 h3 h4 h5 h6 h7 h8
  unfold isDig at h
  rw [beq_iff_eq.2 (by omega : (c.toNat : Int) = 57)]

set_option maxRecDepth 100000 in
set_option maxHeartbeats 8000000 in
theorem startListItem_num (b bp : Nat) (text : ByteArray) (i : Nat) (nl : Int) (w : World) (hi : i ≤ text.size) (hT : Txt text) (hL : LineAt w b i text nl)
    (hd : isDig (at0 text (p3 text i))) (hN : NumNo text (p3 text i)) :
    Calls Tryz.prog 149 #[.pointer (some ⟨bp, 0, none⟩), .pointer (some ⟨b, 0, none⟩)] w fun e w' => e = .returned (.bool false) ∧ Same w w' := by
  obtain ⟨h0, h1, h2, h3, h4, hf0, hf1, hf2, hf3, hf4, hbl⟩ := hL.facts
  have hp := (p3_le hi).2
  have hs := hT.size
  have HN := Lib.hid hN
  have HD := Lib.hid hd
  clear hN hd
  go_enter Tryz.func149, Tryz.ntmps149
  go_wp2
  go_step3
  go_wp2
  go_loopg [6, 7] 3 (fun g n j wr => ∃ k : Nat, g = 3 - k ∧ n = .int .i64 k ∧ j = .int .i64 k ∧ IRel w wr (w.heap.size + 1) text i k nl)
  case atStart =>
    refine ⟨0, rfl, rfl, rfl, by omega, rfl, ?_, ?_⟩
    · exact ((Mods.refl _ w).alloc _).alloc _
    · exact Blk.newAt _ _ (by simp)
  case round =>
    obtain ⟨k, hg, rfl, rfl, hk3, hlk, hmw, hlw⟩ := hrel
    have HG := Lib.hid hg
    have HK := Lib.hid hlk
    clear hg hlk h0 h1 h2 h3 h4 hf0 hf1 hf2 hf3 hf4 hL
    have hik : i + k ≤ text.size := by have := (lead_le text k i).2 hi; have := HK.out; omega
    by_cases hlt : k < 3
    · go_wp2_with fail
      refine (trimSpace_11 _ text (i + k) false nl wr hik hT hlw).mono ?_
      rintro e w1 (⟨hs, rfl, hm1, hl1⟩ | ⟨hs, rfl, hm1, hl1⟩)
      · have HS := Lib.hid hs
        clear hs
        go_wp2
        go_roundg (3 - (k + 1))
        case measure => have := HG.out; omega
        case rel =>
          exact ⟨k + 1, rfl, by go_num, by go_num, by omega, lead_one HK.out HS.out, hmw.then hm1 (by intro b hb; omega), hl1⟩
      · have e1 : lead text i 3 = k := by
          have := lead_all (m := 3 - k) HK.out hs
          rwa [show k + (3 - k) = 3 by omega] at this
        have hp : i + k = p3 text i := by unfold p3; rw [e1]
        clear e1 hs
        rw [hp] at hl1
        clear hp
        go_wp2_with fail
        refine (peek_any _ _ _ _ _ hT.size hl1).mono ?_
        rintro e w2 ⟨rfl, n, rfl⟩
        have hW : Same w (w1.drewN n) := (hmw.then hm1 (by intro b hb; omega)).drewN n
        have hl2 : LineAt (w1.drewN n) (w.heap.size + 1) (p3 text i) text nl := hl1
        generalize w1.drewN n = w3 at *
        obtain ⟨q0, q1, q2, q3, q4, qf0, qf1, qf2, qf3, qf4, qbl⟩ := LineAt.facts hl2
        clear hl1 hm1 hmw hlw
        have b45 : (((at0 text (p3 text i)).toNat : Int) == 45) = false := beq_eq_false_iff_ne.2 (by have := HD.out; unfold isDig at this; omega)
        have b42 : (((at0 text (p3 text i)).toNat : Int) == 42) = false := beq_eq_false_iff_ne.2 (by have := HD.out; unfold isDig at this; omega)
        have b43 : (((at0 text (p3 text i)).toNat : Int) == 43) = false := beq_eq_false_iff_ne.2 (by have := HD.out; unfold isDig at this; omega)
        generalize hP : p3 text i = P at *
        clear hP
        go_wp2
        go_step3
        go_upto_if 40 with (fail)
        go_cut [40] (fun s40 wx => s40 = .bool true ∧ w3 = wx)
        case first =>
          go_wp2
          all_goals first
            | (go_meet; case rel => exact ⟨rfl, rfl⟩)
            | (go_meet; case rel => exact ⟨by first | exact congrArg Value.bool (by assumption) | exact dig_last HD.out (by assumption) (by assumption) (by assumption) (by assumption) (by assumption) (by assumption) (by assumption) (by assumption) (by assumption), rfl⟩)
        case rest =>
          obtain ⟨rfl, rfl⟩ := hcut
          go_wp2
          go_loopg [9, 10] (text.size - P) (fun g num j wr => ∃ (t : Nat) (z : Int), g = text.size - (P + t) ∧ num = .int .i64 z ∧ j = .int .i64 ((P : Int) + t) ∧ wr = w3 ∧ P + t ≤ text.size ∧ t ≤ 9 ∧ ∀ u, u < t → isDig (at0 text (P + u)))
          case atStart => exact ⟨0, 0, rfl, rfl, by simp, rfl, by omega, by omega, fun u hu => absurd hu (by omega)⟩
          case round =>
            obtain ⟨t, z, hg2, rfl, rfl, rfl, ht1, ht2, hdg⟩ := hrel
            have HG2 := Lib.hid hg2
            have HDG := Lib.hid hdg
            have hno := HN.out t hdg
            clear hg2 hdg
            by_cases hlt2 : P + t < text.size
            · have hat : at0 text (P + t) = text[P + t] := at0_eq hlt2
              rw [hat] at hno
              have e46 : (((text[P + t]).toNat : Int) == 46) = false := beq_eq_false_iff_ne.2 (by omega)
              have e41 : (((text[P + t]).toNat : Int) == 41) = false := beq_eq_false_iff_ne.2 (by omega)
              have HAT := Lib.hid hat
              clear hat hno
              by_cases hlo : ((text[P + t]).toNat : Int) < 48
              · go_wp2
                try rw [Exit.noGoto_ret]
                go_ret
                exact ⟨rfl, hW⟩
              · by_cases hhi : 57 < ((text[P + t]).toNat : Int)
                · go_wp2
                  try rw [Exit.noGoto_ret]
                  go_ret
                  exact ⟨rfl, hW⟩
                · by_cases h9 : t < 9
                  · go_wp2
                    go_roundg (text.size - (P + (t + 1)))
                    case measure => have := HG2.out; omega
                    case rel =>
                      refine ⟨t + 1, _, rfl, rfl, by go_num, rfl, by omega, by omega, fun u hu => ?_⟩
                      rcases Nat.lt_or_ge u t with h | h
                      · exact HDG.out u h
                      · have : u = t := by omega
                        subst this
                        rw [HAT.out]
                        unfold isDig
                        omega
                  · have h99 : t = 9 := by omega
                    subst h99
                    go_wp2
                    try rw [Exit.noGoto_ret]
                    go_ret
                    exact ⟨rfl, hW⟩
            · go_wp2
              try rw [Exit.noGoto_ret]
              go_ret
              exact ⟨rfl, hW⟩
    · have hk : k = 3 := by omega
      subst hk
      have hp3 : i + 3 = p3 text i := by unfold p3; rw [HK.out]
      rw [hp3] at hlw
      clear hp3
      go_wp2_with fail
      refine (peek_any _ _ _ _ _ hT.size hlw).mono ?_
      rintro e w2 ⟨rfl, n, rfl⟩
      have hW : Same w (wr.drewN n) := hmw.drewN n
      have hl2 : LineAt (wr.drewN n) (w.heap.size + 1) (p3 text i) text nl := hlw
      generalize wr.drewN n = w3 at *
      obtain ⟨q0, q1, q2, q3, q4, qf0, qf1, qf2, qf3, qf4, qbl⟩ := LineAt.facts hl2
      clear hmw hlw
      have b45 : (((at0 text (p3 text i)).toNat : Int) == 45) = false := beq_eq_false_iff_ne.2 (by have := HD.out; unfold isDig at this; omega)
      have b42 : (((at0 text (p3 text i)).toNat : Int) == 42) = false := beq_eq_false_iff_ne.2 (by have := HD.out; unfold isDig at this; omega)
      have b43 : (((at0 text (p3 text i)).toNat : Int) == 43) = false := beq_eq_false_iff_ne.2 (by have := HD.out; unfold isDig at this; omega)
      generalize hP : p3 text i = P at *
      clear hP
      go_wp2
      go_step3
      go_upto_if 40 with (fail)
      go_cut [40] (fun s40 wx => s40 = .bool true ∧ w3 = wx)
      case first =>
        go_wp2
        all_goals first
          | (go_meet; case rel => exact ⟨rfl, rfl⟩)
          | (go_meet; case rel => exact ⟨by first | exact congrArg Value.bool (by assumption) | exact dig_last HD.out (by assumption) (by assumption) (by assumption) (by assumption) (by assumption) (by assumption) (by assumption) (by assumption) (by assumption), rfl⟩)
      case rest =>
        obtain ⟨rfl, rfl⟩ := hcut
        go_wp2
        go_loopg [9, 10] (text.size - P) (fun g num j wr => ∃ (t : Nat) (z : Int), g = text.size - (P + t) ∧ num = .int .i64 z ∧ j = .int .i64 ((P : Int) + t) ∧ wr = w3 ∧ P + t ≤ text.size ∧ t ≤ 9 ∧ ∀ u, u < t → isDig (at0 text (P + u)))
        case atStart => exact ⟨0, 0, rfl, rfl, by simp, rfl, by omega, by omega, fun u hu => absurd hu (by omega)⟩
        case round =>
          obtain ⟨t, z, hg2, rfl, rfl, rfl, ht1, ht2, hdg⟩ := hrel
          have HG2 := Lib.hid hg2
          have HDG := Lib.hid hdg
          have hno := HN.out t hdg
          clear hg2 hdg
          by_cases hlt2 : P + t < text.size
          · have hat : at0 text (P + t) = text[P + t] := at0_eq hlt2
            rw [hat] at hno
            have e46 : (((text[P + t]).toNat : Int) == 46) = false := beq_eq_false_iff_ne.2 (by omega)
            have e41 : (((text[P + t]).toNat : Int) == 41) = false := beq_eq_false_iff_ne.2 (by omega)
            have HAT := Lib.hid hat
            clear hat hno
            by_cases hlo : ((text[P + t]).toNat : Int) < 48
            · go_wp2
              try rw [Exit.noGoto_ret]
              go_ret
              exact ⟨rfl, hW⟩
            · by_cases hhi : 57 < ((text[P + t]).toNat : Int)
              · go_wp2
                try rw [Exit.noGoto_ret]
                go_ret
                exact ⟨rfl, hW⟩
              · by_cases h9 : t < 9
                · go_wp2
                  go_roundg (text.size - (P + (t + 1)))
                  case measure => have := HG2.out; omega
                  case rel =>
                    refine ⟨t + 1, _, rfl, rfl, by go_num, rfl, by omega, by omega, fun u hu => ?_⟩
                    rcases Nat.lt_or_ge u t with h | h
                    · exact HDG.out u h
                    · have : u = t := by omega
                      subst this
                      rw [HAT.out]
                      unfold isDig
                      omega
                · have h99 : t = 9 := by omega
                  subst h99
                  go_wp2
                  try rw [Exit.noGoto_ret]
                  go_ret
                  exact ⟨rfl, hW⟩
          · go_wp2
            try rw [Exit.noGoto_ret]
            go_ret
            exact ⟨rfl, hW⟩
end Go.Proofs.YtdnlfdppjfjncaaGreatDoor

/- addLine where the document alone is open and the line begins a paragraph. -/
namespace Go.Proofs.YtdnlfdppjfjncaaGreatDoor
open Go Go.RowKit Go.Proofs

/-- The line begins no item of a list. -/
def ItemNo (text : ByteArray) (i : Nat) : Prop := NoItem (at0 text (p3 text i)) ∨ (isDig (at0 text (p3 text i)) ∧ NumNo text (p3 text i))

theorem startListItem_none (b bp : Nat) (text : ByteArray) (i : Nat) (nl : Int) (w : World) (hi : i ≤ text.size) (hT : Txt text) (hL : LineAt w b i text nl) (hc : ItemNo text i) :
    Calls Tryz.prog 149 #[.pointer (some ⟨bp, 0, none⟩), .pointer (some ⟨b, 0, none⟩)] w fun e w' => e = .returned (.bool false) ∧ Same w w' := by
  rcases hc with h | ⟨h1, h2⟩
  · exact startListItem_no b bp text i nl w hi hT hL h
  · exact startListItem_num b bp text i nl w hi hT hL h1 h2

theorem as_list_no (T X : Nat) (v : Value) (w : World) (h : T ≠ 242) :
    (Instr.typeAssert (.iface T v) X 242 true).run Tryz.prog w = .ok (.tuple #[.pointer none, .bool false]) w :=
  as_ptr_no T _ 247 (by kernel_rfl) (fun _ => by kernel_rfl) X v w h

set_option maxRecDepth 100000 in
set_option maxHeartbeats 2000000 in
theorem newListItem_no (bp g n cap : Nat) (_a : Option Addr) (p : PSt) (T d : Nat) (v : Value) (text : ByteArray) (i : Nat) (nl : Int) (w : World) (hp : PsAt w bp p) (hst : p.stack = .slice (some ⟨g, 0, none⟩) n cap) (hd : p.depth = d) (hn : d < n) (hn2 : d ≤ 1000000)
    (hb : w.cell? ⟨g, d * 4, none⟩ = some (.iface T v)) (hT4 : T ≠ 242) (hi : i ≤ text.size) (hT : Txt text) (hc : ItemNo text i) :
    Calls Tryz.prog 99 #[.pointer (some ⟨bp, 0, none⟩), LV i text nl] w fun e w' => e = .returned (.tuple #[LV i text nl, .bool false]) ∧ Same w w' := by
  have hA := fun w => as_list_no T 118 v w hT4
  go_enter Tryz.func99, Tryz.ntmps99
  go_wp2_with fail
  generalize hW : ((w.alloc _).alloc _ : World) = W
  have hm0 : Same w W := by subst hW; exact ((Mods.refl _ w).alloc _).alloc _
  have hbk : LineAt W w.heap.size i text nl := by subst hW; exact (Blk.newAt _ _ rfl).alloc _
  have hr : LineAt W (w.heap.size + 1) 0 ⟨#[]⟩ 0 := by subst hW; exact Blk.newAt _ _ (by simp)
  clear hW
  have hb1 : W.cell? ⟨g, d * 4, none⟩ = some (.iface T v) := (World.cell?_of_block (hm0.block g (World.block_lt_of_cell? _ _ hb) (fun x => x))).trans hb
  refine (curB_some bp g n cap p W (hp.same hm0) hst d hd hn hn2 _ hb1).mono ?_
  rintro e w1 ⟨rfl, n1, rfl⟩
  have hm1 : Same W (W.drewN n1) := (Mods.refl _ W).drewN _
  generalize W.drewN n1 = W1 at *
  have hbk1 := Same.blk hm1 hbk
  have hr1 := Same.blk hm1 hr
  have hk := hm0.trans hm1
  clear hbk hr hm0 hm1 hb1 hd hst hp hb
  go_wp2_with fail
  refine (startListItem_none _ bp text i nl W1 hi hT hbk1 hc).mono ?_
  rintro e w2 ⟨rfl, hm2⟩
  have hbk2 := Same.blk hm2 hbk1
  have hr2 := Same.blk hm2 hr1
  have hk2 := hk.trans hm2
  obtain ⟨g0, g1, g2, g3, g4, gf0, gf1, gf2, gf3, gf4, gbl⟩ := LineAt.facts hbk2
  obtain ⟨r0, r1, r2, r3, r4, rf0, rf1, rf2, rf3, rf4, rbl⟩ := LineAt.facts hr2
  clear hbk1 hr1 hbk2 hc hk hm2
  go_wp2
  exact bodyPost_ret (v := .tuple #[LV i text nl, .bool false]) (by simp [results, Tryz.results99, go_sem, r0, r1, r2, r3, r4]) rfl ⟨rfl, by
    exact hk2.then ((put5 hr2 i text nl).1) (by intro b hb; omega)⟩
theorem news_any (w : World) : Calls Tryz.prog 71 #[] w fun e w' => ∃ b, e = .returned (.slice (some ⟨b, 0, none⟩) 8 8) ∧ Same w w' ∧
    Blk w' b #[.func (.func 95) #[] #[], .func (.func 96) #[] #[], .func (.func 97) #[] #[], .func (.func 98) #[] #[],
      .func (.func 99) #[] #[], .func (.func 100) #[] #[], .func (.func 101) #[] #[], .func (.func 102) #[] #[]] 124 := by
  go_enter Tryz.func71, Tryz.ntmps71
  go_wp2
  go_ret
  exact ⟨w.heap.size, rfl, (Mods.refl _ w).alloc _, Blk.newAt _ _ rfl⟩

/-- None of the eight functions begins a block with this line. -/
def TriesNo (w : World) (bp i : Nat) (text : ByteArray) (nl : Int) : Prop :=
  ∀ f ∈ [95, 96, 97, 98, 99, 100, 101, 102], ∀ W, Same w W →
    Calls Tryz.prog f #[.pointer (some ⟨bp, 0, none⟩), LV i text nl] W fun e w' => e = .returned (.tuple #[LV i text nl, .bool false]) ∧ Same W w'

/-- A line that begins with none of the signs of blocks. -/
structure Plain (text : ByteArray) (i : Nat) : Prop where
  c62 : ((at0 text (p3 text i)).toNat : Int) ≠ 62
  c35 : ((at0 text (p3 text i)).toNat : Int) ≠ 35
  c45 : ((at0 text (p3 text i)).toNat : Int) ≠ 45
  c95 : ((at0 text (p3 text i)).toNat : Int) ≠ 95
  c42 : ((at0 text (p3 text i)).toNat : Int) ≠ 42
  c60 : ((at0 text (p3 text i)).toNat : Int) ≠ 60
  c96 : ((at0 text (p3 text i)).toNat : Int) ≠ 96
  c126 : ((at0 text (p3 text i)).toNat : Int) ≠ 126
  c32 : at0 text (p3 text i) ≠ 32
  item : ItemNo text i

theorem triesNo_first (bp g n cap : Nat) (p : PSt) (T : Nat) (v : Value) (text : ByteArray) (i : Nat) (nl : Int) (w : World) (h : NoPara w bp g n cap p T v) (hd : p.depth = n)
    (hT4 : T ≠ 242) (hi : i ≤ text.size) (hT : Txt text) (hP : Plain text i) : TriesNo w bp i text nl := by
  intro f hf W hW
  have h1 := h.same hW
  simp only [List.mem_cons, List.not_mem_nil, or_false] at hf
  rcases hf with rfl | rfl | rfl | rfl | rfl | rfl | rfl | rfl
  · exact newQuote_no _ text i nl W hi hT hP.c62
  · exact newATX_no _ text i nl W hi hT hP.c35
  · exact newSetext_first bp g n cap p T v text i nl W h1 hd
  · exact newHR_no _ text i nl W hi hT hP.c45 hP.c95 hP.c42
  · exact newListItem_no bp g (n + 1) cap none p T n v text i nl W h1.at_ h1.stack hd (by omega) h1.small h1.top hT4 hi hT hP.item
  · exact newHTML_no _ text i nl W hi hT hP.c60
  · exact newFence_no _ text i nl W hi hT hP.c96 hP.c126
  · exact newPre_first bp g n cap p T v text i nl W hi hT h1 hP.c32

def blankAt (text : ByteArray) (i : Nat) : Bool := (trimL (text.extract i text.size)).toList.isEmpty

set_option maxRecDepth 100000 in
set_option maxHeartbeats 4000000 in
theorem addLine_first (bp g cap : Nat) (p : PSt) (T : Nat) (v : Value) (l : List Value) (text : ByteArray) (nl : Int) (w : World) (h : NoPara w bp g 0 cap p T v)
    (hs : text.size ≤ 1000000) (hbl : blankAt text 0 = false) (hO : Opt w p 5 false) (hown : w.ownsRow 0 121 4 p.stack 1 l) (hp51 : p.parser ≠ bp)
    (hN : ∀ W, NoPara W bp g 0 cap { p with depth := 0 } T v → TriesNo W bp 0 text nl) :
    Calls Tryz.prog 64 #[.pointer (some ⟨bp, 0, none⟩), LV 0 text nl] w fun e w' => e = .returned (.tuple #[]) ∧ ParaNew w w' bp { p with depth := 0 } 0 l (trimL (text.extract 0 text.size)) := by
  have k5 := h.at_.depth
  have f5 := h.at_.fr 5
  have hbpl := h.at_.lt
  go_enter Tryz.func64, Tryz.ntmps64
  go_wp2
  go_step3
  go_wp2
  generalize hW : (World.alloc _ _ : World) = W
  have hp0 : PsAt W bp { p with depth := 0 } := by subst hW; exact PsAt.alloc (h.at_.set 5 _ { p with depth := 0 } rfl (by decide)) _
  have hm0 : Mods (fun k => k = bp) w W := by subst hW; exact ((Mods.refl (fun k => k = bp) w).setCell (p := ⟨bp, 5, none⟩) (fun _ => rfl) _).alloc _
  have hbk : LineAt W w.heap.size 0 text nl := by subst hW; exact Blk.newAt _ _ (by simp)
  clear hW
  obtain ⟨tail, htl⟩ := id h.at_
  obtain ⟨_, _, he, ⟨cur, hcur⟩, _, _⟩ := ownsRow_form (h.stack ▸ hown) (by omega)
  cases he
  have hgbp : g ≠ bp := hcur.ne_of_type htl (by decide)
  have h0 : NoPara W bp g 0 cap { p with depth := 0 } T v := ⟨hp0, h.stack, h.small, (World.cell?_of_block (hm0.block g (World.block_lt_of_cell? _ _ h.top) hgbp)).trans h.top, h.other⟩
  have hown0 : W.ownsRow 0 121 4 p.stack 1 l := ownsRow_keep hown hm0 (by rw [h.stack]; intro k hk; cases hk; exact hgbp)
  have hO0 : Opt W p 5 false := hO.keep hm0 hp51
  have hTN := hN W h0
  have k4 : W.cell? ⟨bp, 4, none⟩ = some (.slice (some ⟨g, 0, none⟩) 1 cap) := by have := hp0.stack; rw [h.stack] at this; exact this
  have k5' := hp0.depth
  clear k5 f5 hbpl hcur htl
  go_loopg [] 0 (fun g wr => W = wr)
  case atStart => rfl
  case round =>
    subst hrel
    go_wp2_with fail
    go_quiet (fail)
    generalize hX : (W.drewN _ : World) = W1
    have hm1 : Same W W1 := by subst hX; exact (Mods.refl _ W).drewN _
    clear hX k4 k5'
    have hbk1 := Same.blk hm1 hbk
    go_wp2_with fail
    refine (isBlank_any _ _ _ _ _ hs (by omega) hbk1).mono ?_
    rintro e w2 ⟨rfl, n2, rfl⟩
    rw [show (trimL (text.extract 0 text.size)).toList.isEmpty = false from hbl]
    have hm2 : Same W (W1.drewN n2) := hm1.drewN _
    generalize W1.drewN n2 = W2 at *
    have hbk2 := Same.blk hm2 hbk
    clear hm1 hbk1 hbl
    go_wp2_with fail
    go_step3
    go_wp2_with fail
    refine (news_any _).mono ?_
    rintro e w3 ⟨nb, rfl, hm3, hnb⟩
    have hm4 := hm2.trans hm3
    have hbk3 := Same.blk hm3 hbk2
    clear hm2 hbk2
    go_wp2
    go_loopg [88] 8 (fun gg j wr => ∃ k : Nat, gg = 8 - k ∧ j = .int .i64 k ∧ k ≤ 8 ∧ Same w3 wr)
    case atStart => exact ⟨0, rfl, rfl, by omega, Mods.refl _ _⟩
    case round =>
      obtain ⟨k, hg, rfl, hk8, hr5⟩ := hrel
      have hm5 := hm4.trans hr5
      have hbk5 := Same.blk hr5 hbk3
      have hnb5 := Same.blk hr5 hnb
      obtain ⟨g0, g1, g2, g3, g4, gf0, gf1, gf2, gf3, gf4, gbl⟩ := LineAt.facts hbk5
      have hcases : k = 0 ∨ k = 1 ∨ k = 2 ∨ k = 3 ∨ k = 4 ∨ k = 5 ∨ k = 6 ∨ k = 7 ∨ k = 8 := by omega
      rcases hcases with rfl | rfl | rfl | rfl | rfl | rfl | rfl | rfl | rfl
      · have n0 : wr.cell? ⟨nb, 0, none⟩ = some (.func (.func 95) #[] #[]) := hnb5.cell 0
        go_wp2_with fail
        refine (hTN 95 (by simp) wr hm5).mono ?_
        rintro e w6 ⟨rfl, hm6⟩
        clear n0 g0 g1 g2 g3 g4 gf0 gf1 gf2 gf3 gf4 gbl
        go_wp2
        go_roundg 7
        case measure => omega
        case rel => exact ⟨1, rfl, rfl, by omega, (hr5.trans hm6).alloc _⟩
      · have n0 : wr.cell? ⟨nb, 1, none⟩ = some (.func (.func 96) #[] #[]) := hnb5.cell 1
        go_wp2_with fail
        refine (hTN 96 (by simp) wr hm5).mono ?_
        rintro e w6 ⟨rfl, hm6⟩
        clear n0 g0 g1 g2 g3 g4 gf0 gf1 gf2 gf3 gf4 gbl
        go_wp2
        go_roundg 6
        case measure => omega
        case rel => exact ⟨2, rfl, rfl, by omega, (hr5.trans hm6).alloc _⟩
      · have n0 : wr.cell? ⟨nb, 2, none⟩ = some (.func (.func 97) #[] #[]) := hnb5.cell 2
        go_wp2_with fail
        refine (hTN 97 (by simp) wr hm5).mono ?_
        rintro e w6 ⟨rfl, hm6⟩
        clear n0 g0 g1 g2 g3 g4 gf0 gf1 gf2 gf3 gf4 gbl
        go_wp2
        go_roundg 5
        case measure => omega
        case rel => exact ⟨3, rfl, rfl, by omega, (hr5.trans hm6).alloc _⟩
      · have n0 : wr.cell? ⟨nb, 3, none⟩ = some (.func (.func 98) #[] #[]) := hnb5.cell 3
        go_wp2_with fail
        refine (hTN 98 (by simp) wr hm5).mono ?_
        rintro e w6 ⟨rfl, hm6⟩
        clear n0 g0 g1 g2 g3 g4 gf0 gf1 gf2 gf3 gf4 gbl
        go_wp2
        go_roundg 4
        case measure => omega
        case rel => exact ⟨4, rfl, rfl, by omega, (hr5.trans hm6).alloc _⟩
      · have n0 : wr.cell? ⟨nb, 4, none⟩ = some (.func (.func 99) #[] #[]) := hnb5.cell 4
        go_wp2_with fail
        refine (hTN 99 (by simp) wr hm5).mono ?_
        rintro e w6 ⟨rfl, hm6⟩
        clear n0 g0 g1 g2 g3 g4 gf0 gf1 gf2 gf3 gf4 gbl
        go_wp2
        go_roundg 3
        case measure => omega
        case rel => exact ⟨5, rfl, rfl, by omega, (hr5.trans hm6).alloc _⟩
      · have n0 : wr.cell? ⟨nb, 5, none⟩ = some (.func (.func 100) #[] #[]) := hnb5.cell 5
        go_wp2_with fail
        refine (hTN 100 (by simp) wr hm5).mono ?_
        rintro e w6 ⟨rfl, hm6⟩
        clear n0 g0 g1 g2 g3 g4 gf0 gf1 gf2 gf3 gf4 gbl
        go_wp2
        go_roundg 2
        case measure => omega
        case rel => exact ⟨6, rfl, rfl, by omega, (hr5.trans hm6).alloc _⟩
      · have n0 : wr.cell? ⟨nb, 6, none⟩ = some (.func (.func 101) #[] #[]) := hnb5.cell 6
        go_wp2_with fail
        refine (hTN 101 (by simp) wr hm5).mono ?_
        rintro e w6 ⟨rfl, hm6⟩
        clear n0 g0 g1 g2 g3 g4 gf0 gf1 gf2 gf3 gf4 gbl
        go_wp2
        go_roundg 1
        case measure => omega
        case rel => exact ⟨7, rfl, rfl, by omega, (hr5.trans hm6).alloc _⟩
      · have n0 : wr.cell? ⟨nb, 7, none⟩ = some (.func (.func 102) #[] #[]) := hnb5.cell 7
        go_wp2_with fail
        refine (hTN 102 (by simp) wr hm5).mono ?_
        rintro e w6 ⟨rfl, hm6⟩
        clear n0 g0 g1 g2 g3 g4 gf0 gf1 gf2 gf3 gf4 gbl
        go_wp2
        go_roundg 0
        case measure => omega
        case rel => exact ⟨8, rfl, rfl, by omega, (hr5.trans hm6).alloc _⟩
      · have h5 := h0.same hm5
        have hown5 := ownsRow_keep hown0 hm5 (fun _ _ x => x)
        have hO5 := hO0.keep hm5 (fun x => x)
        go_wp2_with fail
        refine (newPara_first bp g 0 cap { p with depth := 0 } T v l text 0 nl wr h5 rfl (by omega) (by omega) hs hO5 hown5).mono ?_
        rintro e w6 ⟨rfl, hpn⟩
        go_wp2
        try rw [Exit.noGoto_normal]
        go_end0
        refine ⟨rfl, ?_, ?_⟩
        · exact ((hm0.mono (fun _ _ h => Or.inl h)).then (hm5.trans (Mods.refl _ _)) (fun _ _ h => absurd h (fun x => x))).then hpn.mods (fun _ _ h => h)
        · obtain ⟨g6, cap6, bb, tv, x1, x2, x3, x4, x5, x6, x7⟩ := hpn.ex
          exact ⟨g6, cap6, bb, tv, x1, x2, x3, x4, by have := hm0.size; have := hm5.size; omega, fun hlt => x6 (by have := hm0.size; have := hm5.size; omega), fun k hk => by have := x7 k hk; have := hm0.size; have := hm5.size; omega⟩
end Go.Proofs.YtdnlfdppjfjncaaGreatDoor

/- Seven signs # are no heading. -/
namespace Go.Proofs.YtdnlfdppjfjncaaGreatDoor
open Go Go.RowKit Go.Proofs

/-- Seven # stand at place i. -/
def Seven (text : ByteArray) (i : Nat) : Prop := ∀ u, u < 7 → at0 text (i + u) = 35

theorem at0_lt {text : ByteArray} {i : Nat} {c : UInt8} (h : at0 text i = c) (hc : c ≠ 0) : ∃ hi : i < text.size, text[i] = c := by
  unfold at0 at h
  split at h
  · rename_i hi; exact ⟨hi, h⟩
  · exact absurd h.symm hc

set_option maxHeartbeats 4000000 in
theorem trimHeading_seven (b : Nat) (q : Value) (text : ByteArray) (i : Nat) (nl : Int) (w : World) (hi : i ≤ text.size) (hT : Txt text) (hL : LineAt w b i text nl)
    (h7 : Seven text (p3 text i)) :
    Calls Tryz.prog 135 #[.pointer (some ⟨b, 0, none⟩), q] w fun e w' => e = .returned (.bool false) ∧ Same w w' := by
  have hp := (p3_le hi).2
  obtain ⟨h0, h1, h2, h3, h4, hf0, hf1, hf2, hf3, hf4, hbl⟩ := hL.facts
  have H7 := Lib.hid (fun u (hu : u < 7) => at0_lt (h7 u hu) (by decide))
  clear h7
  go_enter Tryz.func135, Tryz.ntmps135
  go_wp2_with fail
  generalize hW : (w.alloc _ : World) = W
  have hm0 : Same w W := by subst hW; exact (Mods.refl _ w).alloc _
  have hl : LineAt W (w.heap.size) i text nl := by subst hW; exact Blk.newAt _ _ rfl
  clear hW h0 h1 h2 h3 h4 hf0 hf1 hf2 hf3 hf4 hbl hL
  refine (trimSpace_03 _ text i nl W hi hT hl).mono ?_
  rintro e w1 ⟨rfl, hm1, hl1⟩
  have hk : Same w w1 := hm0.then hm1 (by intro b hb; omega)
  clear hl hm0 hm1
  go_wp2_with fail
  obtain ⟨q0, q1⟩ := H7.out 0 (by omega)
  refine (trim_yes _ _ text 35 nl w1 hT.size hl1 q0 (by have : text[p3 text i] = 35 := q1; rw [this]; rfl)).mono ?_
  rintro e w2 ⟨rfl, hm2, hl2⟩
  have hk2 : Same w w2 := hk.then hm2 (by intro b hb; omega)
  clear hl1 hm2 hk q1
  generalize hP : p3 text i = P at *
  clear hP
  go_wp2_with fail
  go_loopg [6] 5 (fun g n wr => ∃ k : Nat, g = 6 - k ∧ n = .int .i64 k ∧ 1 ≤ k ∧ k ≤ 6 ∧ Same w wr ∧ LineAt wr w.heap.size (P + k) text nl)
  case atStart => exact ⟨1, rfl, rfl, by omega, by omega, hk2, hl2⟩
  case round =>
    clear hk2 hl2
    obtain ⟨k, hg, rfl, hk1, hk6, hmw, hlw⟩ := hrel
    have HG := Lib.hid hg
    clear hg
    by_cases hlt : k < 6
    · have v1 : (k : Int) < 6 := by omega
      have v3 : IntKind.i64.wrap ((k : Int) + 1) = (k : Int) + 1 := IntWalk.i64_in _ (by omega)
      obtain ⟨r0, r1⟩ := H7.out k (by omega)
      have HR := Lib.hid r1
      clear r1
      go_wp2_with fail
      refine (trim_yes _ _ text 35 nl wr hT.size hlw r0 (by rw [HR.out]; rfl)).mono ?_
      rintro e w3 ⟨rfl, hm3, hl3⟩
      go_wp2_with fail
      go_roundg (6 - (k + 1))
      case measure => have := HG.out; omega
      case rel => exact ⟨k + 1, rfl, rfl, by omega, by omega, hmw.then hm3 (by intro b hb; omega), hl3⟩
    · have v1 : ¬ (k : Int) < 6 := by omega
      have hk : k = 6 := by omega
      obtain ⟨r0, r1⟩ := H7.out 6 (by omega)
      have hr : at0 text (P + 6) ≠ 32 := by rw [at0_eq r0, r1]; decide
      have hno : ¬ text.size ≤ P + 6 := by omega
      have HR := Lib.hid hr
      clear r1 hr
      subst hk
      go_wp2_with fail
      refine (trimSpace_11 _ text (P + 6) true nl wr (by omega) hT hlw).mono ?_
      rintro e w3 (⟨hs, rfl, hm3, hl3⟩ | ⟨hs, rfl, hm3, hl3⟩)
      · exact absurd hs HR.out
      · have hd : (true && decide (text.size ≤ P + 6)) = false := by simp; omega
        rw [hd]
        clear hs hd
        go_wp2
        go_ret
        exact ⟨rfl, hmw.then hm3 (by intro b hb; omega)⟩

set_option maxHeartbeats 1000000 in
theorem newATX_seven (p : Value) (text : ByteArray) (i : Nat) (nl : Int) (w : World) (hi : i ≤ text.size) (hT : Txt text) (h7 : Seven text (p3 text i)) :
    Calls Tryz.prog 96 #[p, LV i text nl] w fun e w' => e = .returned (.tuple #[LV i text nl, .bool false]) ∧ Same w w' := by
  go_enter Tryz.func96, Tryz.ntmps96
  go_wp2_with fail
  generalize hW : ((((w.alloc _).alloc _).alloc _).alloc _ : World) = W
  have hm0 : Same w W := by subst hW; exact ((((Mods.refl _ w).alloc _).alloc _).alloc _).alloc _
  have hb : LineAt W w.heap.size i text nl := by subst hW; exact (((Blk.newAt _ _ rfl).alloc _).alloc _).alloc _
  have hr : LineAt W (w.heap.size + 1) 0 ⟨#[]⟩ 0 := by subst hW; exact ((Blk.newAt _ _ (by simp)).alloc _).alloc _
  have hl : LineAt W (w.heap.size + 1 + 1) i text nl := by subst hW; exact (Blk.newAt _ _ (by simp)).alloc _
  clear hW
  refine (trimHeading_seven _ _ text i nl W hi hT hl h7).mono ?_
  rintro e w1 ⟨rfl, hm1⟩
  have hk : Same w w1 := hm0.trans hm1
  have hb1 := Same.blk hm1 hb
  have hr1 := Same.blk hm1 hr
  obtain ⟨g0, g1, g2, g3, g4, gf0, gf1, gf2, gf3, gf4, gbl⟩ := LineAt.facts hb1
  obtain ⟨r0, r1, r2, r3, r4, rf0, rf1, rf2, rf3, rf4, rbl⟩ := LineAt.facts hr1
  clear hb hr hb1 hm1 hm0 h7 hl
  go_wp2
  exact bodyPost_ret (v := .tuple #[LV i text nl, .bool false]) (by simp [results, Tryz.results96, go_sem, r0, r1, r2, r3, r4]) rfl ⟨rfl, by
    exact hk.then ((put5 hr1 i text nl).1) (by intro b hb; omega)⟩

/-- The line begins a paragraph: no sign of a block, or seven # and more. -/
def Begins (text : ByteArray) (i : Nat) : Prop := Plain text i ∨ Seven text (p3 text i)

theorem triesNo_begins (bp g n cap : Nat) (p : PSt) (T : Nat) (v : Value) (text : ByteArray) (i : Nat) (nl : Int) (w : World) (h : NoPara w bp g n cap p T v) (hd : p.depth = n)
    (hT4 : T ≠ 242) (hi : i ≤ text.size) (hT : Txt text) (hP : Begins text i) : TriesNo w bp i text nl := by
  rcases hP with hP | h7
  · exact triesNo_first bp g n cap p T v text i nl w h hd hT4 hi hT hP
  · intro f hf W hW
    have h1 := h.same hW
    have h35 : at0 text (p3 text i) = 35 := h7 0 (by omega)
    have hc : ∀ k : Int, k ≠ 35 → ((at0 text (p3 text i)).toNat : Int) ≠ k := by
      intro k hk e; rw [h35] at e; exact hk e.symm
    have h32 : at0 text (p3 text i) ≠ 32 := by rw [h35]; decide
    have hno : ItemNo text i := by
      left
      intro k hk
      refine hc k ?_
      rintro rfl
      revert hk
      decide
    simp only [List.mem_cons, List.not_mem_nil, or_false] at hf
    rcases hf with rfl | rfl | rfl | rfl | rfl | rfl | rfl | rfl
    · exact newQuote_no _ text i nl W hi hT (hc _ (by decide))
    · exact newATX_seven _ text i nl W hi hT h7
    · exact newSetext_first bp g n cap p T v text i nl W h1 hd
    · exact newHR_no _ text i nl W hi hT (hc _ (by decide)) (hc _ (by decide)) (hc _ (by decide))
    · exact newListItem_no bp g (n + 1) cap none p T n v text i nl W h1.at_ h1.stack hd (by omega) h1.small h1.top hT4 hi hT hno
    · exact newHTML_no _ text i nl W hi hT (hc _ (by decide))
    · exact newFence_no _ text i nl W hi hT (hc _ (by decide)) (hc _ (by decide))
    · exact newPre_first bp g n cap p T v text i nl W hi hT h1 h32
end Go.Proofs.YtdnlfdppjfjncaaGreatDoor

/- (*Parser).parse of one line of plain bytes and escaped signs. -/
namespace Go.Proofs.YtdnlfdppjfjncaaGreatDoor
open Go Go.RowKit Go.Proofs

/-- The parser's options. -/
structure Off (w : World) (pp : Nat) : Prop where
  lt : pp < w.heap.size
  ex : ∃ cs, Blk w pp cs 76 ∧ (∀ k, k < 10 → cs[k]? = some (.bool false))

theorem Off.opt {w : World} {pp : Nat} (h : Off w pp) {p : PSt} (hp : p.parser = pp) (k : Nat) (hk : k < 10) : Opt w p k false := by
  obtain ⟨cs, h1, h2⟩ := h.ex
  exact ⟨cs, by rw [hp]; exact h1, h2 k hk⟩
theorem Off.same {w w' : World} {pp : Nat} (h : Off w pp) (hm : Same w w') : Off w' pp := by
  obtain ⟨cs, h1, h2⟩ := h.ex
  exact ⟨Nat.lt_of_lt_of_le h.lt hm.size, cs, hm.blk h1, h2⟩

/-- A line as FnEscaped writes it. -/
structure OneLine (s : ByteArray) : Prop where
  pos : 0 < s.size
  small : s.size ≤ 900000
  first : isW s[0] = false
  last : isW (s[s.size - 1]'(by omega)) = false
  no0 : ∀ i (hi : i < s.size), s[i] ≠ 0
  no10 : ∀ i (hi : i < s.size), s[i] ≠ 10
  no13 : ∀ i (hi : i < s.size), s[i] ≠ 13
  no91 : s[0] ≠ 91
  no9 : ∀ i (hi : i < s.size), s[i] ≠ 9
  begins : Begins s 0

theorem trimL_id {s : ByteArray} (h0 : 0 < s.size) (h : isW s[0] = false) : trimL (s.extract 0 s.size) = s := by
  have he := ext_all s
  rw [he]
  unfold trimL
  have : ws s 0 = 0 := by rw [ws, dif_pos h0, h]; rfl
  rw [this, he]
theorem blankAt_id {s : ByteArray} (h0 : 0 < s.size) (h : isW s[0] = false) : blankAt s 0 = false := by
  unfold blankAt
  rw [trimL_id h0 h]
  exact bs_ne h0

def p0 (pp : Nat) : PSt := ⟨pp, .pointer none, .map none, 0, .slice none 0 0, -1, false, ⟨#[]⟩, 0, .slice none 0 0, .slice none 0 0, .slice none 0 0⟩

/-- The parse state when the line has been read. -/
def p2 (pp g cap : Nat) : PSt := { p0 pp with lineno := 1, depth := 0, stack := .slice (some ⟨g, 0, none⟩) (0 + 2) cap }

/-- What stands of the document when both blocks are closed. -/
structure TwoClosed (w w' : World) (bp g cap pp : Nat) (s : ByteArray) : Prop where
  mods : Mods (fun k => k = bp ∨ k = g) w w'
  ex : ∃ rk pk tb tg tc ig ic, w.heap.size ≤ rk ∧ w.heap.size ≤ pk ∧ w.heap.size ≤ tb ∧
    Blk w' rk #[.int .i64 0, .int .i64 0, .slice (some ⟨ig, 0, none⟩) 1 ic, .map none] 339 ∧
    Blk w' pk #[.int .i64 1, .int .i64 1, .pointer (some ⟨tb, 0, none⟩)] 155 ∧
    Blk w' tb #[.int .i64 1, .int .i64 1, .slice none 0 0, .string s] 110 ∧
    PsAt w' bp { p2 pp g cap with texts := .slice (some ⟨tg, 0, none⟩) 1 tc, stack := .slice (some ⟨g, 0, none⟩) 0 cap, root := .pointer (some ⟨rk, 0, none⟩) } ∧
    w'.ownsRow 0 105 1 (.slice (some ⟨tg, 0, none⟩) 1 tc) 1 [.pointer (some ⟨tb, 0, none⟩)] ∧
    w'.ownsRow 0 68 1 (.slice (some ⟨ig, 0, none⟩) 1 ic) 1 [.iface 153 (.pointer (some ⟨pk, 0, none⟩))]

theorem closed_two (bp g cap bb pp : Nat) (tv : Value) (s : ByteArray) (v : Option Addr) (w : World) (hp : PsAt w bp (p2 pp g cap))
    (hown : w.ownsRow 0 121 4 (.slice (some ⟨g, 0, none⟩) (0 + 2) cap) (0 + 2) ([.iface 98 (.pointer v), .slice none 0 0, .int .i64 0, .int .i64 0] ++ [.iface 162 (.pointer (some ⟨bb, 0, none⟩)), .slice none 0 0, .int .i64 1, .int .i64 1]))
    (hB : Blk w bb #[tv, .pointer none] 166) (htv : w.ownsRow 0 9 1 tv 1 [.string s]) (hs : OneLine s) :
    Calls Tryz.prog 65 #[.pointer (some ⟨bp, 0, none⟩), .int .i64 0] w fun e w' => e = .returned (.tuple #[]) ∧ TwoClosed w w' bp g cap pp s := by
  have hs6 : s.size ≤ 1000000 := by have := hs.small; omega
  obtain ⟨gt, ct, rfl, _, _, hc⟩ := ownsRow_form htv (by omega)
  have hc0 := hc 0 _ rfl
  have hJ : ∀ W, Same w W → Calls Tryz.prog 29 #[.slice (some ⟨gt, 0, none⟩) 1 ct, .string ⟨#[10]⟩] W fun e W' => e = .returned (.string s) ∧ Same W W' := fun W hW =>
    (join_one gt ct s ⟨#[10]⟩ W ((World.cell?_of_block (hW.block gt (World.block_lt_of_cell? _ _ hc0) (fun x => x))).trans hc0)).mono fun e W' ⟨h1, h2⟩ => ⟨h1, by rw [← h2]; exact Mods.refl _ _⟩
  have h91 := hs.no91
  have h10 := hs.no10 0 hs.pos
  have h9 := hs.no9 0 hs.pos
  have h32 : s[0]'hs.pos ≠ 32 := by intro h; have := hs.first; rw [h] at this; cases this
  have hcl := closePara bp bb g 0 cap 0 0 (p2 pp g cap) [] [] [] (.iface 98 (.pointer v)) (.slice none 0 0) (.slice none 0 0) _ 0 0 1 1 1 s w hp rfl (by omega) hown ⟨rfl, Or.inl ⟨rfl, rfl⟩⟩ (by omega) hB ⟨_, _, rfl⟩ (by omega)
    ⟨rfl, Or.inl ⟨rfl, rfl⟩⟩ (by omega) hJ hs.pos hs6 h32 h9 h10 h91 (by omega) (by omega)
  have hgen := trimStack_gen bp 0 (fun k W => match k with
    | 2 => W = w
    | 1 => ∃ u, ParaClosed w W bp g 0 cap 0 0 (p2 pp g cap) [] [] [] (.iface 98 (.pointer v)) (.slice none 0 0) 0 0 1 (1 + (1 : Nat) - 1) s u
    | 0 => TwoClosed w W bp g cap pp s
    | _ => False) (by omega) ?_ ?_ 2 w rfl
  · exact hgen
  · intro k W hP
    match k, hP with
    | 2, hP => subst hP; exact ⟨by omega, _, _, hp.stack⟩
    | 1, ⟨u, hPC⟩ =>
      obtain ⟨pk, tb, tg, tc, ig, ic, _, _, _, _, _, h, _⟩ := hPC.ex
      exact ⟨by omega, _, _, h.stack⟩
    | 0, hP =>
      obtain ⟨rk, pk, tb, tg, tc, ig, ic, _, _, _, _, _, _, h, _⟩ := hP.ex
      exact ⟨by omega, _, _, h.stack⟩
  · intro k W hP
    match k, hP with
    | 1, hP => subst hP; exact hcl.mono fun e w' ⟨v1, h1, h2⟩ => ⟨v1, h1, v1, h2⟩
    | 0, ⟨u, hPC⟩ =>
      obtain ⟨pk, tb, tg, tc, ig, ic, _, hpk, htb, hPb, hTb, hps, htx, hrow, hin⟩ := hPC.ex
      refine (closeRoot bp g cap _ v (some ⟨ig, 0, none⟩) 1 ic none 0 0 W hps rfl hrow rfl).mono ?_
      rintro e W' ⟨u', rfl, hm, rk, hrk, hR, hps'⟩
      have h1 := hPC.mods.size
      have hne : ∀ {b : Nat} {cs : Array Value} {T : Nat}, Blk W b cs T → T ≠ 95 → ¬ (b = bp) := fun h hT => by
        obtain ⟨tail, htl⟩ := id hps
        exact h.ne_of_type htl hT
      refine ⟨u', rfl, ?_, rk, pk, tb, tg, tc, ig, ic, by omega, hpk, htb, hR, hPb.keep hm (hne hPb (by decide)), hTb.keep hm (hne hTb (by decide)), hps', ?_, ?_⟩
      · refine (hPC.mods.mono (fun k _ h => ?_)).trans (hm.mono (fun _ _ h => Or.inl h))
        rcases h with h | h | h | h
        · exact Or.inl h
        · exact Or.inr h
        · cases h
        · cases h
      · exact ownsRow_keep htx hm (fun k hk x => own_ne_ps htx hps (by decide) (by rw [← x]; exact hk))
      · exact ownsRow_keep hin hm (fun k hk x => own_ne_ps hin hps (by decide) (by rw [← x]; exact hk))

/-- The document of one paragraph of one line. -/
structure DocAt (w w' : World) (bp rk pp : Nat) (s : ByteArray) (all : List Pc) : Prop where
  mods : Same w w'
  ps : ∃ q : PSt, PsAt w' bp q ∧ q.root = .pointer (some ⟨rk, 0, none⟩)
  ex : ∃ pk tb ig ic gl n lc xs x y x2 y2, Blk w' rk #[.int .i64 x, .int .i64 y, .slice (some ⟨ig, 0, none⟩) 1 ic, .map none] 339 ∧
    w'.ownsRow 0 68 1 (.slice (some ⟨ig, 0, none⟩) 1 ic) 1 [.iface 153 (.pointer (some ⟨pk, 0, none⟩))] ∧
    Blk w' pk #[.int .i64 x2, .int .i64 y2, .pointer (some ⟨tb, 0, none⟩)] 155 ∧
    Blk w' tb #[.int .i64 x2, .int .i64 y2, .slice (some ⟨gl, 0, none⟩) n lc, .string s] 110 ∧
    0 < n ∧ n ≤ s.size + 1 ∧ w'.ownsRow 0 132 1 (.slice (some ⟨gl, 0, none⟩) n lc) n xs ∧ PcsAt w' xs (all)

theorem DocAt.same {w w1 w2 : World} {bp rk pp : Nat} {s : ByteArray} {all : List Pc} (h : DocAt w w1 bp rk pp s all) (hm : Same w1 w2) : DocAt w w2 bp rk pp s all := by
  obtain ⟨h1, ⟨q, hq, hq1⟩, pk, tb, ig, ic, gl, n, lc, xs, x, y, x2, y2, a1, a2, a3, a4, a5, a6, a7, a8⟩ := h
  exact ⟨h1.trans hm, ⟨q, hq.same hm, hq1⟩, pk, tb, ig, ic, gl, n, lc, xs, x, y, x2, y2, hm.blk a1, ownsRow_keep a2 hm (fun _ _ x => x), hm.blk a3, hm.blk a4, a5, a6, ownsRow_keep a7 hm (fun _ _ x => x), a8.keep hm (fun _ _ _ _ _ x => x)⟩

theorem docAt_mk {w w3 w4 : World} {x y x2 y2 : Int} {bp rk pk tb ig ic gl n lc pp : Nat} {q q1 : PSt} {s : ByteArray} {xs : List Value} {all : List Pc} (hm : Same w w3) (hbp : w.heap.size ≤ bp) (htb : w.heap.size ≤ tb) (hps : PsAt w3 bp q)
    (hR : Blk w3 rk #[.int .i64 x, .int .i64 y, .slice (some ⟨ig, 0, none⟩) 1 ic, .map none] 339) (hPk : Blk w3 pk #[.int .i64 x2, .int .i64 y2, .pointer (some ⟨tb, 0, none⟩)] 155)
    (hT : Blk w3 tb #[.int .i64 x2, .int .i64 y2, .slice none 0 0, .string s] 110) (hin : w3.ownsRow 0 68 1 (.slice (some ⟨ig, 0, none⟩) 1 ic) 1 [.iface 153 (.pointer (some ⟨pk, 0, none⟩))])
    (hH : Held w3 w4 bp q1 s s.size n (.slice (some ⟨gl, 0, none⟩) n lc) xs (all)) (hn0 : 0 < n) (hn1 : n ≤ s.size + 1) (hq1 : q1.root = .pointer (some ⟨rk, 0, none⟩)) :
    DocAt w (w4.setCell ⟨tb, 2, none⟩ (.slice (some ⟨gl, 0, none⟩) n lc)) bp rk pp s all := by
  obtain ⟨tail, htl⟩ := id hps
  have hT4 := hT.keep1 hH.mods (hT.ne_of_type htl (by decide))
  have hm5 : Mods (fun k => k = tb) w4 (w4.setCell ⟨tb, 2, none⟩ (.slice (some ⟨gl, 0, none⟩) n lc)) := (Mods.refl (fun k => k = tb) w4).setCell (p := ⟨tb, 2, none⟩) (fun _ => rfl) _
  have hin4 := ownsRow_keep hin hH.mods (fun k hk x => own_ne_ps hin hps (by decide) (by rw [← x]; exact hk))
  have hne : ∀ {b : Nat} {cs : Array Value} {T : Nat}, Blk w4 b cs T → T ≠ 110 → b ≠ tb := fun h hT => h.ne_of_type hT4 hT
  refine ⟨?_, ⟨_, hH.at_.set_other (a := ⟨tb, 2, none⟩) (hT.ne_of_type htl (by decide)) _, hq1⟩, pk, tb, ig, ic, gl, n, lc, xs, x, y, x2, y2, ?_, ?_, ?_, hT4.set_same 2 _, hn0, hn1, ?_, ?_⟩
  · exact (hm.then hH.mods (fun b hb h => by omega)).then hm5 (fun b hb h => by omega)
  · exact (hR.keep1 hH.mods (hR.ne_of_type htl (by decide))).keep1 hm5 (hne (hR.keep1 hH.mods (hR.ne_of_type htl (by decide))) (by decide))
  · exact ownsRow_keep hin4 hm5 (fun k hk x => own_ne hin4 hT4 (by decide) (by rw [← x]; exact hk))
  · exact (hPk.keep1 hH.mods (hPk.ne_of_type htl (by decide))).keep1 hm5 (hne (hPk.keep1 hH.mods (hPk.ne_of_type htl (by decide))) (by decide))
  · exact ownsRow_keep hH.row hm5 (fun k hk x => own_ne hH.row hT4 (by decide) (by rw [← x]; exact hk))
  · exact hH.pcs.keep hm5 (fun b cs T hb hTT x => by
      refine hne hb ?_ x
      exact hTT.ne (by decide) (by decide) (by decide) (by decide) (by decide))

set_option maxRecDepth 100000 in
set_option maxHeartbeats 8000000 in
theorem parse_line (pp : Nat) (s : ByteArray) (w : World) (hs : OneLine s) (all : List Pc) (hg : Plan s 0 0 all) (hO : Off w pp) :
    Calls Tryz.prog 51 #[.pointer (some ⟨pp, 0, none⟩), .string s] w fun e w' => ∃ bp rk c, e = .returned (.tuple #[.pointer (some ⟨rk, 0, none⟩), .bool c]) ∧ DocAt w w' bp rk pp s all := by
  have hs6 : s.size ≤ 1000000 := by have := hs.small; omega
  have i0 := idx1_none hs.no0
  have i10 := idx1_none hs.no10
  have i13 := idx1_none hs.no13
  go_enter Tryz.func51, Tryz.ntmps51
  go_wp2_with fail
  refine (zzContains_any s 0 _ hs6).mono ?_
  rintro e w' ⟨rfl, rfl⟩
  rw [i0]
  generalize hW : (World.alloc _ _ : World) = W
  have hm0 : Same w W := by subst hW; exact (Mods.refl _ w).alloc _
  have hp0 : PsAt W w.heap.size { p0 pp with depth := 0 } := by
    subst hW
    exact ⟨Tryz.zeroCells95.toList.drop 12, Blk.newAt _ _ rfl⟩
  clear hW
  generalize hbp : w.heap.size = bp at *
  have hO0 := hO.same hm0
  have k5 := hp0.depth
  have f5 := hp0.fr 5
  have hbl := hp0.lt
  go_wp2_with fail
  generalize hX : (World.alloc (World.setCell _ _ _) _ : World) = X
  have hmX : Same w X := by
    subst hX
    exact (hm0.setCell (p := ⟨bp, 5, none⟩) (fun h => absurd h (Nat.not_lt.2 (Nat.le_of_eq hbp))) _).alloc _
  have hpX : PsAt X bp (p0 pp) := by
    subst hX
    exact PsAt.alloc (hp0.set 5 (.int .i64 (-1)) (p0 pp) rfl (by decide)) _
  clear hX
  refine (addBlock_any bp 0 0 none (p0 pp) _ (.pointer (some ⟨W.heap.size, 0, none⟩)) [] (-1) X hpX rfl (by omega) rfl rfl ⟨rfl, Or.inl ⟨rfl, rfl⟩⟩ (fun g h => by cases h) rfl).mono ?_
  rintro e w1 ⟨rfl, hm1, g, cap, hp1, hown1, hgl1⟩
  have hmw1 : Same w w1 := hmX.then hm1 (fun b hb h => by
    rcases h with h | h
    · omega
    · cases h)
  have e0 : s.toList.isEmpty = false := bs_ne hs.pos
  have e0' : (!s.toList.isEmpty) = true := by rw [e0]; rfl
  clear k5 f5 hbl
  go_wp2_with fail
  go_loopg [1] 1 (fun k v1 wr => (k = 1 ∧ v1 = .string s ∧ wr = w1) ∨ (k = 0 ∧ v1 = .string ⟨#[]⟩ ∧ ParaNew w1 wr bp { p0 pp with lineno := 1, stack := .slice (some ⟨g, 0, none⟩) 1 cap, depth := 0 } 0 [.iface 98 (.pointer (some ⟨W.heap.size, 0, none⟩)), .slice none 0 0, .int .i64 0, .int .i64 0] s))
  case atStart => exact Or.inl ⟨rfl, rfl, rfl⟩
  case round =>
    rcases hrel with ⟨rfl, rfl, rfl⟩ | ⟨rfl, rfl, hPN⟩
    · go_wp2_with fail
      refine (zzIndex_any s 10 _ hs6).mono ?_
      rintro e w' ⟨rfl, rfl⟩
      rw [i10]
      go_wp2_with fail
      refine (zzIndex_any s 13 _ hs6).mono ?_
      rintro e w' ⟨rfl, rfl⟩
      rw [i13]
      have k3 : wr.cell? ⟨bp, 3, none⟩ = some (.int .i64 0) := hp1.lineno
      have f3 := hp1.fr 3
      have hbl := hp1.lt
      go_wp2_with fail
      generalize hY : (World.setCell wr _ _ : World) = Y
      have hmY : Mods (fun k => k = bp) wr Y := by subst hY; exact (Mods.refl (fun k => k = bp) wr).setCell (p := ⟨bp, 3, none⟩) (fun _ => rfl) _
      have hpY : PsAt Y bp { p0 pp with lineno := 1, stack := .slice (some ⟨g, 0, none⟩) 1 cap } := by subst hY; exact hp1.set 3 _ _ rfl (by decide)
      clear hY k3 f3 hbl
      have hownY := ownsRow_keep hown1 hmY (fun k hk x => own_ne_ps hown1 hp1 (by decide) (by rw [← x]; exact hk))
      have hOY := (hO.same hmw1)
      have hppb : pp ≠ bp := by have := hO.lt; omega
      have hOYo : Opt Y { p0 pp with lineno := 1, stack := .slice (some ⟨g, 0, none⟩) 1 cap } 5 false := (hOY.opt rfl 5 (by omega)).keep hmY hppb
      have hNP : NoPara Y bp g 0 cap { p0 pp with lineno := 1, stack := .slice (some ⟨g, 0, none⟩) 1 cap } 98 (.pointer (some ⟨W.heap.size, 0, none⟩)) :=
        ⟨hpY, rfl, by omega, (row_cells (n := 0) (l := []) hownY).1, by decide⟩
      refine (addLine_first bp g cap _ _ _ _ s 0 Y hNP hs6 (blankAt_id hs.pos hs.first) hOYo hownY hppb (fun V hV => triesNo_begins bp g 0 cap _ _ _ s 0 0 V hV rfl (by decide) (Nat.zero_le _) ⟨hs6, hs.no9⟩ hs.begins)).mono ?_
      rintro e w2 ⟨rfl, hPN⟩
      rw [trimL_id hs.pos hs.first] at hPN
      go_wp2_with fail
      go_roundg 0
      case measure => omega
      case rel => exact Or.inr ⟨rfl, rfl, ⟨(hmY.mono (fun _ _ h => Or.inl h)).trans hPN.mods, by obtain ⟨g', c', bb, tv, a1, a2, a3, a4, a5, a6, a7⟩ := hPN.ex; exact ⟨g', c', bb, tv, a1, a2, a3, a4, Nat.le_trans hmY.size a5, fun hlt => a6 (Nat.lt_of_lt_of_le hlt hmY.size), fun k hk => Nat.le_trans hmY.size (a7 k hk)⟩⟩⟩
    · go_wp2_with fail
      obtain ⟨hm2, g2, cap2, bb, tv, hp2, hown2, hB2, htv2, hbb, hg2, _⟩ := hPN
      refine (closed_two bp g2 cap2 bb pp tv s (some ⟨W.heap.size, 0, none⟩) wr hp2 hown2 hB2 htv2 hs).mono ?_
      rintro e w3 ⟨rfl, hTw⟩
      have hXs := hmX.size
      have hgw : w.heap.size ≤ g := by
        by_cases h : g < X.heap.size
        · cases hgl1 h
        · omega
      have hg2w : w.heap.size ≤ g2 := by
        by_cases h : g2 < w1.heap.size
        · have := hg2 h
          cases this
          exact hgw
        · have := hmw1.size; omega
      have hmw2 : Same w wr := hmw1.then hm2 (fun b hb h => by
        rcases h with h | h
        · omega
        · have hh : g = b := Option.some.inj h
          omega)
      have hmw3 : Same w w3 := hmw2.then hTw.mods (fun b hb h => by omega)
      have hrs := hmw2.size
      obtain ⟨rk, pk, tb, tg, tc, ig, ic, hrk, hpk, htb, hR, hPk, hT, hps, htx, hin⟩ := hTw.ex
      clear hp1 hown1 hgl1 hm1 hpX hmX hp0 hm0 hown2 hB2 htv2 hp2 hTw
      have k11 := hps.texts
      go_wp2_with fail
      go_loopg [83] 1 (fun k v83 wr2 => (k = 1 ∧ v83 = .int .i64 0 ∧ wr2 = w3) ∨ (k = 0 ∧ v83 = .int .i64 1 ∧ DocAt w wr2 bp rk pp s all))
      case atStart => exact Or.inl ⟨rfl, rfl, rfl⟩
      case round =>
        rcases hrel with ⟨rfl, rfl, rfl⟩ | ⟨rfl, rfl, hDA⟩
        · obtain ⟨_, _, he, _, _, hc⟩ := ownsRow_form htx (by omega)
          cases he
          have t0 := hc 0 _ rfl
          have r3 := hT.cell 3
          go_wp2_with fail
          have hOw : Opt wr _ 3 false := (hO.same hmw3).opt (p := { p2 pp g2 cap2 with texts := .slice (some ⟨tg, 0, none⟩) 1 tc, stack := .slice (some ⟨g2, 0, none⟩) 0 cap2, root := .pointer (some ⟨rk, 0, none⟩) }) rfl 3 (by omega)
          refine (inline_any bp _ s wr hps hs.small hs.pos all hg hOw (by have := hO.lt; show pp ≠ bp; omega) (trimSpaceTab_id s wr hs6 hs.pos hs.first hs.last)).mono ?_
          rintro e w4 ⟨gl, n, lc, xs, rfl, hn0, hn1, c4, hH⟩
          have hTne : tb ≠ bp := by
            obtain ⟨tail, htl⟩ := id hps
            exact hT.ne_of_type htl (by decide)
          have hT4 := hT.keep1 hH.mods hTne
          have c2 : w4.cell? ⟨tb, 2, none⟩ = some (.slice none 0 0) := hT4.cell 2
          have f2 := hT4.fr 2
          have l2 := hT4.lt
          go_wp2_with fail
          go_roundg 0
          case measure => omega
          case rel => exact Or.inr ⟨rfl, rfl, docAt_mk hmw3 (by omega) (by omega) hps hR hPk hT hin hH hn0 hn1 rfl⟩
        · have hoff := (hO.same hDA.mods).opt (p := p0 pp) rfl 2 (by omega)
          have o2 : wr.cell? ⟨pp, 2, none⟩ = some (.bool false) := hoff.cell
          obtain ⟨q, hq, hq1⟩ := id hDA.ps
          have k1 := hq.root
          have k6 := hq.corner
          rw [hq1] at k1
          go_wp2_with fail
          go_quiet (fail)
          go_wp2_with fail
          go_ret2
          exact ⟨bp, rk, _, rfl, hDA.same ((Mods.refl _ wr).drewN nq)⟩

theorem parser_Parse (pp : Nat) (s : ByteArray) (w : World) (hs : OneLine s) (all : List Pc) (hg : Plan s 0 0 all) (hO : Off w pp) :
    Calls Tryz.prog 39 #[.pointer (some ⟨pp, 0, none⟩), .string s] w fun e w' => ∃ bp rk, e = .returned (.pointer (some ⟨rk, 0, none⟩)) ∧ DocAt w w' bp rk pp s all := by
  go_enter Tryz.func39, Tryz.ntmps39
  go_wp2_with fail
  refine (parse_line pp s w hs all hg hO).mono ?_
  rintro e w' ⟨bp, rk, c, rfl, hD⟩
  go_wp2_with fail
  go_ret
  exact ⟨bp, rk, rfl, hD⟩
end Go.Proofs.YtdnlfdppjfjncaaGreatDoor

/- impl.parser; the table of the HTML escaper; Document, Paragraph and Text to HTML. -/
namespace Go.Proofs.YtdnlfdppjfjncaaGreatDoor
open Go Go.RowKit Go.Proofs

/-- The table of the escaper, as it lies in memory. -/
def escCells : Array Value := #[.string ⟨#[34]⟩, .string ⟨#[38, 113, 117, 111, 116, 59]⟩, .string ⟨#[38]⟩, .string ⟨#[38, 97, 109, 112, 59]⟩, .string ⟨#[60]⟩, .string ⟨#[38, 108, 116, 59]⟩, .string ⟨#[62]⟩, .string ⟨#[38, 103, 116, 59]⟩]

theorem htmlEscaper_any (w : World) :
    Calls Tryz.prog 265 #[] w fun e w' => e = .returned (.slice (some ⟨w.heap.size, 0, none⟩) 8 8) ∧ w' = w.alloc (.cells escCells 9) := by
  go_enter Tryz.func265, Tryz.ntmps265
  go_wp2_with fail
  go_ret
  exact ⟨rfl, rfl⟩

/-- What escaping makes of one byte. -/
def escB (c : UInt8) : List UInt8 := if c = 34 then [38, 113, 117, 111, 116, 59] else if c = 38 then [38, 97, 109, 112, 59] else if c = 60 then [38, 108, 116, 59] else if c = 62 then [38, 103, 116, 59] else [c]

theorem impl_parser (w : World) :
    Calls Tryz.prog 38 #[.agg #[.bool false, .bool false, .bool false, .bool false, .bool false, .bool false, .bool false, .bool false, .bool false, .bool false]] w fun e w' => ∃ pp, e = .returned (.pointer (some ⟨pp, 0, none⟩)) ∧ Same w w' ∧ w.heap.size ≤ pp ∧ Off w' pp := by
  go_enter Tryz.func38, Tryz.ntmps38
  go_wp2_with fail
  go_ret
  refine ⟨w.heap.size + 1, rfl, ((Mods.refl _ w).alloc _).alloc _, by omega, ⟨by simp, _, Blk.newAt (n := w.heap.size + 1) _ _ (by simp), fun k hk => ?_⟩⟩
  have : k = 0 ∨ k = 1 ∨ k = 2 ∨ k = 3 ∨ k = 4 ∨ k = 5 ∨ k = 6 ∨ k = 7 ∨ k = 8 ∨ k = 9 := by omega
  rcases this with rfl | rfl | rfl | rfl | rfl | rfl | rfl | rfl | rfl | rfl <;> rfl
end Go.Proofs.YtdnlfdppjfjncaaGreatDoor
