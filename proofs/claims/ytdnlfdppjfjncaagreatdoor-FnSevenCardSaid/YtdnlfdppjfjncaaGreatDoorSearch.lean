/- zzIndex, zzContains for one byte; strings.Join of one string. -/
import Derived.Test.YtdnlfdppjfjncaaGreatDoorClose3
namespace Go.Proofs.YtdnlfdppjfjncaaGreatDoor
open Go Go.RowKit Go.Proofs

/-- The first place from i on where c stands; the length when there is none. -/
def fst1 (s : ByteArray) (c : UInt8) (i : Nat) : Nat := if h : i < s.size then (if s[i] = c then i else fst1 s c (i + 1)) else s.size
termination_by s.size - i

/-- The answer of zzIndex. -/
def idx1 (s : ByteArray) (c : UInt8) : Int := if fst1 s c 0 < s.size then (fst1 s c 0 : Nat) else -1

theorem fst1_le (s : ByteArray) (c : UInt8) (i : Nat) (hi : i ≤ s.size) : i ≤ fst1 s c i ∧ fst1 s c i ≤ s.size := by
  rw [fst1]
  split
  · split
    · omega
    · have := fst1_le s c (i + 1) (by omega); omega
  · omega
termination_by s.size - i

theorem fst1_none (s : ByteArray) (c : UInt8) (h : ∀ i (hi : i < s.size), s[i] ≠ c) (i : Nat) (_hi : i ≤ s.size) : fst1 s c i = s.size := by
  rw [fst1]
  split
  · rename_i hlt
    rw [if_neg (h i hlt)]
    exact fst1_none s c h (i + 1) (by omega)
  · rfl
termination_by s.size - i

theorem idx1_none {s : ByteArray} {c : UInt8} (h : ∀ i (hi : i < s.size), s[i] ≠ c) : idx1 s c = -1 := by
  unfold idx1
  rw [fst1_none s c h 0 (Nat.zero_le _), if_neg (Nat.lt_irrefl _)]

theorem ext1 (s : ByteArray) (k : Nat) (hk : k < s.size) : s.extract k (k + 1) = ⟨#[s[k]]⟩ := by
  have h0 : (⟨#[s[k]]⟩ : ByteArray).size = 1 := rfl
  have h1 : (s.extract k (k + 1)).size = 1 := by rw [ByteArray.size_extract]; omega
  apply ByteArray.ext_getElem
  · rw [h0, h1]
  · intro i hi1 hi2
    have : i = 0 := by omega
    subst this
    rw [ByteArray.getElem_extract]
    rfl

set_option maxHeartbeats 1000000 in
theorem zzIndex_any (s : ByteArray) (c : UInt8) (w : World) (hs : s.size ≤ 1000000) :
    Calls Tryz.prog 63 #[.string s, .string ⟨#[c]⟩] w fun e w' => e = .returned (.int .i64 (idx1 s c)) ∧ w = w' := by
  go_enter Tryz.func63, Tryz.ntmps63
  go_wp2
  go_loop [5] (fun i => ∃ k : Nat, i = .int .i64 k ∧ k ≤ s.size ∧ fst1 s c k = fst1 s c 0) (fun i => s.size - (intOf i).toNat)
  case atStart => exact ⟨0, rfl, Nat.zero_le _, rfl⟩
  case round =>
    obtain ⟨k, rfl, hk, hw⟩ := hrel
    have HW := Lib.hid hw
    clear hw
    have w1 : IntKind.i64.wrap ((k : Int) + 1) = (k : Int) + 1 := IntWalk.i64_in _ (by omega)
    have hz : (⟨#[c]⟩ : ByteArray).size = 1 := rfl
    by_cases hlt : k < s.size
    · have hle : (k : Int) + 1 ≤ s.size := by omega
      have h0 : (0 : Int) ≤ k := by omega
      have h2 : (k : Int) ≤ k + 1 := by omega
      have h3 : ((k : Int) + 1).toNat = k + 1 := by omega
      have he := ext1 s k hlt
      have hun : fst1 s c k = if s[k] = c then k else fst1 s c (k + 1) := by rw [fst1, dif_pos hlt]
      have HU := Lib.hid hun
      clear hun
      by_cases hc : s[k] = c
      · have hcb : (s[k] == c) = true := by simpa using hc
        have HC := Lib.hid hc
        clear hc
        go_wp2_with fail
        go_ret
        have : fst1 s c 0 = k := by rw [← HW.out, HU.out, if_pos HC.out]
        unfold idx1
        rw [this, if_pos hlt]
        exact ⟨rfl, rfl⟩
      · have hcb : (s[k] == c) = false := by simpa using hc
        have HC := Lib.hid hc
        clear hc
        go_wp2_with fail
        refine ⟨⟨k + 1, by simp, by omega, ?_⟩, ?_⟩
        · rw [← HW.out, HU.out, if_neg HC.out]
        · simp only [intOf]; omega
    · have hle : ¬ ((k : Int) + 1 ≤ s.size) := by omega
      go_wp2_with fail
      go_ret
      have hk' : k = s.size := by omega
      have h0 : fst1 s c 0 = s.size := by rw [← HW.out, hk', fst1, dif_neg (Nat.lt_irrefl _)]
      unfold idx1
      rw [h0, if_neg (Nat.lt_irrefl _)]
      exact ⟨rfl, rfl⟩

theorem zzContains_any (s : ByteArray) (c : UInt8) (w : World) (hs : s.size ≤ 1000000) :
    Calls Tryz.prog 60 #[.string s, .string ⟨#[c]⟩] w fun e w' => e = .returned (.bool (decide (0 ≤ idx1 s c))) ∧ w = w' := by
  go_enter Tryz.func60, Tryz.ntmps60
  go_wp2_with fail
  refine (zzIndex_any s c w hs).mono ?_
  rintro e w' ⟨rfl, rfl⟩
  go_wp2
  go_ret
  exact ⟨rfl, rfl⟩

/-- Join of one string. -/
theorem join_one (g cap : Nat) (s sep : ByteArray) (w : World) (h : w.cell? ⟨g, 0, none⟩ = some (.string s)) :
    Calls Tryz.prog 29 #[.slice (some ⟨g, 0, none⟩) 1 cap, .string sep] w fun e w' => e = .returned (.string s) ∧ w = w' := by
  go_enter Tryz.func29, Tryz.ntmps29
  go_wp2_with fail
  try rw [Exit.noGoto_ret]
  go_ret
  exact ⟨rfl, rfl⟩
end Go.Proofs.YtdnlfdppjfjncaaGreatDoor
