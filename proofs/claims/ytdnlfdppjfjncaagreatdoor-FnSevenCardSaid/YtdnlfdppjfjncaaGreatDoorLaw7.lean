/- FnEscaped answers true. -/
import Derived.Test.YtdnlfdppjfjncaaGreatDoorLaw6
namespace Go.Proofs.YtdnlfdppjfjncaaGreatDoor
open Go Go.RowKit Go.Proofs

theorem paraT_app (t : ByteArray) : (⟨#[60, 112, 62]⟩ : ByteArray) ++ strL (t.data.toList.flatMap escB) ++ (⟨#[60, 47, 112, 62, 10]⟩ : ByteArray) = paraT (htmlT t) := by
  apply ByteArray.ext
  simp [strL, paraT, htmlT, pOpen, pClose]

set_option maxHeartbeats 4000000 in
theorem law_escaped (s : ByteArray) (w : World) :
    Calls Tryz.prog 4 #[.string s] w fun e w' => e = .returned (.bool true) ∧ Same w w' := by
  by_cases hbig : 2147483647 < s.size
  · have w0 : (2147483647 : Int) < s.size := by omega
    go_enter Tryz.func4, Tryz.ntmps4
    go_wp2_with fail
    go_ret
    exact ⟨rfl, Mods.refl _ _⟩
  · have w0 : ¬ (2147483647 : Int) < s.size := by omega
    by_cases hp : (decide (s.size ≤ 200) && prFrom s 0) = true
    · have hs : s.size ≤ 200 := by simp at hp; exact hp.1
      have hpr : prFrom s 0 = true := by simp at hp; exact hp.2
      by_cases hf : fillOk s = true
      · have hlen := escB_len s.data.toList
        have hsz := strL_size (s.data.toList.flatMap escB)
        have e1 : s.data.toList.length = s.size := rfl
        have hb : (strL (s.data.toList.flatMap escB)).size ≤ 1200 := by omega
        clear hlen hsz e1
        have HPT := Lib.hid (paraT_app s)
        go_enter Tryz.func4, Tryz.ntmps4
        go_wp2_with fail
        refine (printable_any s 200 w (by omega)).mono ?_
        rintro e w' ⟨rfl, rfl⟩
        rw [hp]
        go_wp2_with fail
        refine (filled_any s w (by omega)).mono ?_
        rintro e w' ⟨rfl, rfl⟩
        rw [hf]
        go_wp2_with fail
        refine (escaped_any s w (by omega)).mono ?_
        rintro e w1 ⟨rfl, hm1⟩
        go_wp2_with fail
        refine (escaped_html s w1 hpr hf (by omega)).mono ?_
        rintro e w2 ⟨rfl, hm2⟩
        go_wp2_with fail
        refine (EscapeHTML_any s w2 (by omega)).mono ?_
        rintro e w' ⟨rfl, rfl⟩
        clear hp hf hpr
        go_wp2_with fail
        go_ret
        refine ⟨congrArg (fun b => Ending.returned (.bool b)) ?_, hm1.trans hm2⟩
        rw [HPT.out]
        simp
      · have hf' : fillOk s = false := by simpa using hf
        go_enter Tryz.func4, Tryz.ntmps4
        go_wp2_with fail
        refine (printable_any s 200 w (by omega)).mono ?_
        rintro e w' ⟨rfl, rfl⟩
        rw [hp]
        go_wp2_with fail
        refine (filled_any s w (by omega)).mono ?_
        rintro e w' ⟨rfl, rfl⟩
        rw [hf']
        go_wp2_with fail
        go_ret
        exact ⟨rfl, Mods.refl _ _⟩
    · have hp' : (decide (s.size ≤ 200) && prFrom s 0) = false := by simpa using hp
      go_enter Tryz.func4, Tryz.ntmps4
      go_wp2_with fail
      refine (printable_any s 200 w (by omega)).mono ?_
      rintro e w' ⟨rfl, rfl⟩
      rw [hp']
      go_wp2_with fail
      go_ret
      exact ⟨rfl, Mods.refl _ _⟩
end Go.Proofs.YtdnlfdppjfjncaaGreatDoor
