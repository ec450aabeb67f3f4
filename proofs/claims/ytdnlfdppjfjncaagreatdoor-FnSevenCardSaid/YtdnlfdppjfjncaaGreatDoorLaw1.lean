/- The laws' own functions: IsPunct, filled, printable. -/
import Derived.Test.YtdnlfdppjfjncaaGreatDoorPrint6
namespace Go.Proofs.YtdnlfdppjfjncaaGreatDoor
open Go Go.RowKit Go.Proofs

set_option maxHeartbeats 4000000 in
theorem spec_IsPunct (c : UInt8) (w : World) :
    Calls Tryz.prog 41 #[.int .u8 c.toNat] w fun e w' => e = .returned (.bool (punct c)) ∧ w = w' := by
  have hc : punct c = ((33 ≤ c.toNat && c.toNat ≤ 47) || (58 ≤ c.toNat && c.toNat ≤ 64) || (91 ≤ c.toNat && c.toNat ≤ 96) || (123 ≤ c.toNat && c.toNat ≤ 126)) := rfl
  generalize punct c = b at *
  have HC := Lib.hid hc
  clear hc
  go_enter Tryz.func41, Tryz.ntmps41
  go_wp2_with fail
  all_goals
    go_ret
    refine ⟨congrArg (fun b => Ending.returned (.bool b)) ?_, rfl⟩
    rw [HC.out, Bool.eq_iff_iff]
    simp
    omega

/-- Every byte from i on is printable. -/
def prFrom (s : ByteArray) (i : Nat) : Bool := if h : i < s.size then (32 ≤ s[i].toNat && s[i].toNat ≤ 126 && prFrom s (i + 1)) else true
termination_by s.size - i

set_option maxHeartbeats 4000000 in
theorem printable_any (s : ByteArray) (m : Nat) (w : World) (_hm8 : m ≤ 100000000) :
    Calls Tryz.prog 16 #[.string s, .int .i64 m] w fun e w' => e = .returned (.bool (decide (s.size ≤ m) && prFrom s 0)) ∧ w = w' := by
  by_cases hm : s.size ≤ m
  · have w0 : ¬ ((m : Int) < s.size) := by omega
    have hd : decide (s.size ≤ m) = true := by simpa using hm
    rw [hd, Bool.true_and]
    clear hd
    go_enter Tryz.func16, Tryz.ntmps16
    go_wp2_with fail
    go_loopg [12] s.size (fun k v wr => ∃ i : Nat, v = .int .i64 i ∧ k = s.size - i ∧ i ≤ s.size ∧ prFrom s i = prFrom s 0 ∧ w = wr)
    case atStart => exact ⟨0, rfl, rfl, Nat.zero_le _, rfl, rfl⟩
    case round =>
      obtain ⟨i, rfl, rfl, hi, hp, rfl⟩ := hrel
      have HP := Lib.hid hp
      clear hp
      by_cases hlt : i < s.size
      · have w1 : (i : Int) < s.size := by omega
        have w2 : (0 : Int) ≤ i := by omega
        have w3 : IntKind.i64.wrap ((i : Int) + 1) = (i : Int) + 1 := IntWalk.i64_in _ (by omega)
        have hun : prFrom s i = (32 ≤ s[i].toNat && s[i].toNat ≤ 126 && prFrom s (i + 1)) := by rw [prFrom, dif_pos hlt]
        have HU := Lib.hid hun
        clear hun
        by_cases hc : 32 ≤ s[i].toNat ∧ s[i].toNat ≤ 126
        · have c1 : ¬ ((s[i].toNat : Int) < 32) := by omega
          have c2 : ¬ ((126 : Int) < s[i].toNat) := by omega
          have Hc := Lib.hid hc
          clear hc
          go_wp2_with fail
          go_roundg (s.size - (i + 1))
          case measure => omega
          case rel => exact ⟨i + 1, by simp, rfl, by omega, by rw [← HP.out, HU.out]; simp [Hc.out.1, Hc.out.2], rfl⟩
        · have hf : prFrom s 0 = false := by
            rw [← HP.out, HU.out]
            by_cases h1 : 32 ≤ s[i].toNat
            · have : ¬ s[i].toNat ≤ 126 := fun h => hc ⟨h1, h⟩
              simp [this]
            · simp [h1]
          have HF := Lib.hid hf
          by_cases h1 : (s[i].toNat : Int) < 32
          · clear hc hf
            go_wp2_with fail
            go_ret
            exact ⟨by rw [HF.out]; rfl, rfl⟩
          · have h2 : (126 : Int) < s[i].toNat := by omega
            clear hc hf
            go_wp2_with fail
            go_ret
            exact ⟨by rw [HF.out]; rfl, rfl⟩
      · have hin : i = s.size := by omega
        have w1 : ¬ ((i : Int) < s.size) := by omega
        have ht : prFrom s 0 = true := by rw [← HP.out, hin, prFrom, dif_neg (Nat.lt_irrefl _)]
        have HT := Lib.hid ht
        clear ht
        go_wp2_with fail
        go_ret
        exact ⟨by rw [HT.out]; rfl, rfl⟩
  · have w0 : (m : Int) < s.size := by omega
    have hd : decide (s.size ≤ m) = false := by simpa using hm
    rw [hd, Bool.false_and]
    clear hd
    go_enter Tryz.func16, Tryz.ntmps16
    go_wp2_with fail
    go_ret
    exact ⟨rfl, rfl⟩
end Go.Proofs.YtdnlfdppjfjncaaGreatDoor
