/- Lines handed on by value: trimQuote and newQuote where the line begins with no >. -/
import Derived.Test.YtdnlfdppjfjncaaGreatDoorLine2
namespace Go.Proofs.YtdnlfdppjfjncaaGreatDoor
open Go Go.RowKit Go.Proofs

theorem Blk.newAt {w : World} {n : Nat} (cs : Array Value) (T : Nat) (h : n = w.heap.size) : Blk (w.alloc (.cells cs T)) n cs T := by
  subst h
  exact Blk.new cs T

/-- The place of the first byte behind up to three spaces, and the byte there. -/
def p3 (text : ByteArray) (i : Nat) : Nat := i + lead text i 3

theorem p3_le {text : ByteArray} {i : Nat} (hi : i ≤ text.size) : i ≤ p3 text i ∧ p3 text i ≤ text.size := by
  have := (lead_le text 3 i).2 hi
  unfold p3
  omega

theorem trimSpace_03 (b : Nat) (text : ByteArray) (i : Nat) (nl : Int) (w : World) (hi : i ≤ text.size) (ht : Txt text) (hL : LineAt w b i text nl) :
    Calls Tryz.prog 153 #[.pointer (some ⟨b, 0, none⟩), .int .i64 0, .int .i64 3, .bool false] w
      fun e w' => e = .returned (.bool true) ∧ Mods (fun k => k = b) w w' ∧ LineAt w' b (p3 text i) text nl :=
  (trimSpace_any b text i 0 3 false nl w (by omega) (by omega) hi ht hL).mono fun e w' ⟨he, hm, hl⟩ => by
    have : trimOk text i 0 3 false = true := by simp [trimOk]
    rw [this] at he hl
    exact ⟨he, hm, hl⟩

/-- One space taken away. -/
theorem trimSpace_11 (b : Nat) (text : ByteArray) (i : Nat) (eol : Bool) (nl : Int) (w : World) (hi : i ≤ text.size) (ht : Txt text) (hL : LineAt w b i text nl) :
    Calls Tryz.prog 153 #[.pointer (some ⟨b, 0, none⟩), .int .i64 1, .int .i64 1, .bool eol] w
      fun e w' => (at0 text i = 32 ∧ e = .returned (.bool true) ∧ Mods (fun k => k = b) w w' ∧ LineAt w' b (i + 1) text nl) ∨
        (at0 text i ≠ 32 ∧ e = .returned (.bool (eol && decide (text.size ≤ i))) ∧ Mods (fun k => k = b) w w' ∧ LineAt w' b i text nl) :=
  (trimSpace_any b text i 1 1 eol nl w (by omega) (by omega) hi ht hL).mono fun e w' ⟨he, hm, hl⟩ => by
    by_cases h : i < text.size
    · by_cases h2 : text[i] = 32
      · have e1 : lead text i 1 = 1 := by simp [lead, h, h2]
        have : trimOk text i 1 1 eol = true := by simp [trimOk, e1]
        rw [this] at he hl
        left
        refine ⟨by simp [at0, h, h2], he, hm, ?_⟩
        rw [e1] at hl
        exact hl
      · have e1 : lead text i 1 = 0 := by simp [lead, h2]
        have : trimOk text i 1 1 eol = false := by simp [trimOk, e1]; intro _; omega
        rw [this] at he hl
        right
        refine ⟨by simp [at0, h, h2], ?_, hm, ?_⟩
        · rw [he]; have : ¬ text.size ≤ i := by omega
          simp [this]
        · exact hl
    · have e1 : lead text i 1 = 0 := by simp [lead, h]
      have : trimOk text i 1 1 eol = eol := by
        have : text.size ≤ i := by omega
        simp [trimOk, e1, this]
      rw [this] at he hl
      right
      refine ⟨by simp [at0, h], ?_, hm, ?_⟩
      · rw [he]; have : text.size ≤ i := by omega
        simp [this]
      · rw [e1] at hl
        cases eol <;> exact hl

abbrev LV (i : Nat) (text : ByteArray) (nl : Int) : Value := .agg #[.int .i64 0, .int .i64 i, .int .i64 0, .string text, .int .u8 nl]

theorem lead_small (s : ByteArray) : ∀ (M i : Nat), lead s i M < M → ∀ n, lead s i (M + n) = lead s i M
  | 0, _, h, _ => absurd h (by simp)
  | M + 1, i, h, n => by
    have e : lead s i (M + 1 + n) = if h : i < s.size then (if s[i] = 32 then lead s (i + 1) (M + n) + 1 else 0) else 0 := by
      rw [show M + 1 + n = (M + n) + 1 by omega]; rfl
    have e1 : lead s i (M + 1) = if h : i < s.size then (if s[i] = 32 then lead s (i + 1) M + 1 else 0) else 0 := rfl
    rw [e, e1]
    rw [e1] at h
    split
    · rename_i h1
      split
      · rename_i h2
        rw [dif_pos h1, if_pos h2] at h
        rw [lead_small s M (i + 1) (by omega) n]
      · rfl
    · rfl

/-- Where no space stands behind up to three spaces, there are not four. -/
theorem lead4_lt {text : ByteArray} {i : Nat} (hc : at0 text (p3 text i) ≠ 32) : lead text i 4 < 4 := by
  have h3 := (lead_le text 3 i).1
  rcases Nat.lt_or_ge (lead text i 3) 3 with h | h
  · have h5 : lead text i 4 = lead text i 3 := lead_small text 3 i h 1
    omega
  · have e : lead text i 3 = 3 := by omega
    have h4 : lead text i 4 = _ := lead_step text 3 i e
    unfold p3 at hc
    rw [e] at hc
    unfold at0 at hc
    rw [h4]
    split
    · rename_i h1
      rw [dif_pos h1] at hc
      rw [if_neg hc]
      omega
    · omega

abbrev P5 (w : World) (b i : Nat) (text : ByteArray) (nl : Int) : World :=
  ((((w.setCell ⟨b, 0, none⟩ (.int .i64 0)).setCell ⟨b, 1, none⟩ (.int .i64 i)).setCell ⟨b, 2, none⟩ (.int .i64 0)).setCell ⟨b, 3, none⟩ (.string text)).setCell ⟨b, 4, none⟩ (.int .u8 nl)

theorem put5 {w : World} {b i : Nat} {text : ByteArray} {nl : Int} (hL : LineAt w b i text nl) (i' : Nat) (text' : ByteArray) (nl' : Int) :
    Mods (fun k => k = b) w (P5 w b i' text' nl') ∧ LineAt (P5 w b i' text' nl') b i' text' nl' := by
  constructor
  · exact (((((Mods.refl (fun k => k = b) w).setCell (p := ⟨b, 0, none⟩) (fun _ => rfl) _).setCell (p := ⟨b, 1, none⟩) (fun _ => rfl) _).setCell (p := ⟨b, 2, none⟩) (fun _ => rfl) _).setCell (p := ⟨b, 3, none⟩) (fun _ => rfl) _).setCell (p := ⟨b, 4, none⟩) (fun _ => rfl) _
  · exact ((((Blk.set_same hL 0 _).set_same 1 _).set_same 2 _).set_same 3 _).set_same 4 _

theorem trim_noC (b i : Nat) (text : ByteArray) (c : Int) (nl : Int) (w : World) (hi : i ≤ text.size) (hL : LineAt w b i text nl)
    (hne : ((at0 text i).toNat : Int) ≠ c) :
    Calls Tryz.prog 181 #[.pointer (some ⟨b, 0, none⟩), .int .u8 c] w fun e w' => e = .returned (.bool false) ∧ ∃ n, w' = w.drewN n :=
  trim_no b i text c nl w hi hL (fun h e => hne (by simp [at0, h]; exact e))

set_option maxHeartbeats 1000000 in
theorem trimQuote_no (text : ByteArray) (i : Nat) (nl : Int) (w : World) (hi : i ≤ text.size) (hT : Txt text) (hc : ((at0 text (p3 text i)).toNat : Int) ≠ 62) :
    Calls Tryz.prog 134 #[LV i text nl] w fun e w' => e = .returned (.tuple #[LV i text nl, .bool false]) ∧ Same w w' := by
  have hp := (p3_le hi).2
  go_enter Tryz.func134, Tryz.ntmps134
  go_wp2_with fail
  generalize hW : (((w.alloc _).alloc _).alloc _ : World) = W
  have hm0 : Same w W := by subst hW; exact (((Mods.refl _ w).alloc _).alloc _).alloc _
  have hs0 : W.heap.size = w.heap.size + 1 + 1 + 1 := by subst hW; simp
  have hb : Blk W w.heap.size (lineCells i text nl) 104 := by
    subst hW; exact ((Blk.newAt _ _ rfl).alloc _).alloc _
  have hr : LineAt W (w.heap.size + 1) 0 ⟨#[]⟩ 0 := by
    subst hW; exact (Blk.newAt _ _ (by simp)).alloc _
  have ht : LineAt W (w.heap.size + 1 + 1) i text nl := by
    subst hW; exact Blk.newAt _ _ (by simp)
  clear hW
  refine (trimSpace_03 _ text i nl W hi hT ht).mono ?_
  rintro e w1 ⟨rfl, hm1, hl1⟩
  have hb1 := hb.keep1 hm1 (by omega)
  have hr1 := Blk.keep1 hr hm1 (by omega)
  have hk : Same w w1 := hm0.then hm1 (by intro b hb; omega)
  clear ht hb hr hm1 hm0
  go_wp2_with fail
  refine (trim_noC _ _ _ _ _ _ hp hl1 hc).mono ?_
  rintro e w2 ⟨rfl, n, rfl⟩
  obtain ⟨g0, g1, g2, g3, g4, gf0, gf1, gf2, gf3, gf4, gbl⟩ := LineAt.facts hb1
  obtain ⟨r0, r1, r2, r3, r4, rf0, rf1, rf2, rf3, rf4, rbl⟩ := LineAt.facts hr1
  clear hb1 hl1
  go_wp2
  exact bodyPost_ret (v := .tuple #[LV i text nl, .bool false]) (by simp [results, Tryz.results134, go_sem, r0, r1, r2, r3, r4]) rfl ⟨rfl, by
    exact hk.then ((Mods.drewN (Mods.refl _ _) n).trans (put5 (Blk.drewN hr1 n) i text nl).1) (by intro b hb; omega)⟩
end Go.Proofs.YtdnlfdppjfjncaaGreatDoor
