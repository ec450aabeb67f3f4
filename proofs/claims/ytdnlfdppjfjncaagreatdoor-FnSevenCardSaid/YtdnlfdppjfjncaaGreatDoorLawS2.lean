/- FnSeven answers true. -/
import Derived.Test.YtdnlfdppjfjncaaGreatDoorLawS
import Derived.Test.YtdnlfdppjfjncaaGreatDoorLaw7
namespace Go.Proofs.YtdnlfdppjfjncaaGreatDoor
open Go Go.RowKit Go.Proofs

theorem seven_text (n : Nat) (t : ByteArray) : repT ⟨#[35]⟩ n ++ (⟨#[32]⟩ : ByteArray) ++ slT t = sevenT n t := by
  have h : ∀ n, (List.replicate n [(35 : UInt8)]).flatten = List.replicate n 35 := by
    intro n
    induction n with
    | zero => rfl
    | succ n ih => rw [List.replicate_succ, List.flatten_cons, ih]; rfl
  apply ByteArray.ext
  simp [repT, sevenT, strL, slT, marks, h]

theorem seven_want (n : Nat) (t : ByteArray) : (⟨#[60, 112, 62]⟩ : ByteArray) ++ repT ⟨#[35]⟩ n ++ (⟨#[32]⟩ : ByteArray) ++ strL (t.data.toList.flatMap escB) ++ (⟨#[60, 47, 112, 62, 10]⟩ : ByteArray) = strL (pOpen ++ (marks n ++ t.data.toList.flatMap escB) ++ pClose) := by
  have h : ∀ n, (List.replicate n [(35 : UInt8)]).flatten = List.replicate n 35 := by
    intro n
    induction n with
    | zero => rfl
    | succ n ih => rw [List.replicate_succ, List.flatten_cons, ih]; rfl
  apply ByteArray.ext
  simp [repT, strL, marks, h, pOpen, pClose]

set_option maxRecDepth 100000 in
set_option maxHeartbeats 4000000 in
theorem law_seven (m : Nat) (hm : m < 256) (s : ByteArray) (w : World) :
    Calls Tryz.prog 11 #[.int .u8 m, .string s] w fun e w' => e = .returned (.bool true) ∧ Same w w' := by
  by_cases hbig : 2147483647 < s.size
  · have w0 : (2147483647 : Int) < s.size := by omega
    go_enter Tryz.func11, Tryz.ntmps11
    go_wp2_with fail
    go_ret
    exact ⟨rfl, Mods.refl _ _⟩
  · have w0 : ¬ (2147483647 : Int) < s.size := by omega
    by_cases hf : fillOk s = true
    · by_cases hpr : prFrom s 0 = true
      · by_cases h2000 : 2000 < s.size
        · have w2 : (2000 : Int) < s.size := by omega
          go_enter Tryz.func11, Tryz.ntmps11
          go_wp2_with fail
          refine (full_any s w (by omega)).mono ?_
          rintro e w' ⟨rfl, rfl⟩
          rw [hf]
          go_wp2_with fail
          refine (ascii_any s w (by omega)).mono ?_
          rintro e w' ⟨rfl, rfl⟩
          rw [hpr]
          go_wp2_with fail
          go_ret
          exact ⟨rfl, Mods.refl _ _⟩
        · have w2 : ¬ (2000 : Int) < s.size := by omega
          have hlen := escB_len s.data.toList
          have hsz := strL_size (s.data.toList.flatMap escB)
          have e1 : s.data.toList.length = s.size := rfl
          have hb : (strL (s.data.toList.flatMap escB)).size ≤ 12000 := by omega
          have hsl : (slT s).size ≤ 4000 := by have := slT_size s; omega
          obtain ⟨n, hn⟩ : ∃ n : Nat, n = 7 + m % 20 := ⟨_, rfl⟩
          have hm1 : (7 : Int) + (m : Int) % 20 = (n : Int) := by omega
          have hn7 : 7 ≤ n := by omega
          have hn27 : n ≤ 26 := by omega
          have hr0 := repT_size ⟨#[35]⟩ n
          have hr : (repT ⟨#[35]⟩ n).size ≤ 26 := by
            rw [hr0]
            show n * 1 ≤ 26
            omega
          have HT := Lib.hid (seven_text n s)
          have HWn := Lib.hid (seven_want n s)
          clear hn
          clear hlen hsz e1 hr0
          go_enter Tryz.func11, Tryz.ntmps11
          go_wp2_with fail
          refine (full_any s w (by omega)).mono ?_
          rintro e w' ⟨rfl, rfl⟩
          rw [hf]
          go_wp2_with fail
          refine (ascii_any s w (by omega)).mono ?_
          rintro e w' ⟨rfl, rfl⟩
          rw [hpr]
          go_wp2_with fail
          refine (times_any ⟨#[35]⟩ n w (by decide) (by omega)).mono ?_
          rintro e w' ⟨rfl, rfl⟩
          go_wp2_with fail
          refine (plain_any w).mono ?_
          rintro e w1 ⟨rfl, hm1'⟩
          go_wp2_with fail
          refine (slashed_any s w1 (by omega)).mono ?_
          rintro e w2 ⟨rfl, hm2⟩
          have hT := HT.out
          go_wp2_with fail
          have hsc := sevenT_scan n s hpr
          refine (html_of (sevenT n s) w2 (sevenT_line n s hn7 (by omega) hpr hf (by omega)) ?_).mono ?_
          · rw [hsc, List.length_append, marks_len]
            have := escB_len s.data.toList
            have e1 : s.data.toList.length = s.size := rfl
            omega
          rw [hsc]
          rintro e w3 ⟨rfl, hm3⟩
          go_wp2_with fail
          refine (EscapeHTML_any s w3 (by omega)).mono ?_
          rintro e w' ⟨rfl, rfl⟩
          clear hpr hf hm1 hT hsc
          go_wp2_with fail
          go_ret
          refine ⟨congrArg (fun b => Ending.returned (.bool b)) ?_, (hm1'.trans hm2).trans hm3⟩
          rw [HWn.out]
          simp
      · have hpr' : prFrom s 0 = false := by simpa using hpr
        go_enter Tryz.func11, Tryz.ntmps11
        go_wp2_with fail
        refine (full_any s w (by omega)).mono ?_
        rintro e w' ⟨rfl, rfl⟩
        rw [hf]
        go_wp2_with fail
        refine (ascii_any s w (by omega)).mono ?_
        rintro e w' ⟨rfl, rfl⟩
        rw [hpr']
        go_wp2_with fail
        go_ret
        exact ⟨rfl, Mods.refl _ _⟩
    · have hf' : fillOk s = false := by simpa using hf
      go_enter Tryz.func11, Tryz.ntmps11
      go_wp2_with fail
      refine (full_any s w (by omega)).mono ?_
      rintro e w' ⟨rfl, rfl⟩
      rw [hf']
      go_wp2_with fail
      go_ret
      exact ⟨rfl, Mods.refl _ _⟩
end Go.Proofs.YtdnlfdppjfjncaaGreatDoor
