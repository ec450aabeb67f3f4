/- The laws' own functions: times, full, ascii, plain. -/
import Derived.Test.YtdnlfdppjfjncaaGreatDoorLawB
namespace Go.Proofs.YtdnlfdppjfjncaaGreatDoor
open Go Go.RowKit Go.Proofs

/-- A text n times. -/
def repT (s : ByteArray) (n : Nat) : ByteArray := strL (List.replicate n s.data.toList).flatten

theorem repT_succ (s : ByteArray) (n : Nat) : repT s (n + 1) = repT s n ++ s := by
  unfold repT
  rw [List.replicate_succ', List.flatten_append, ← strL_app]
  have : strL (List.flatten [s.data.toList]) = s := by simp [strL]
  rw [this]
theorem repT_size (s : ByteArray) : ∀ n, (repT s n).size = n * s.size
  | 0 => by simp [repT, strL_size]
  | n + 1 => by rw [repT_succ, ByteArray.size_append, repT_size s n, Nat.succ_mul]

set_option maxHeartbeats 4000000 in
theorem times_any (s : ByteArray) (n : Nat) (w : World) (hs : s.size ≤ 100) (hn : n ≤ 1000) :
    Calls Tryz.prog 23 #[.string s, .int .i64 n] w fun e w' => e = .returned (.string (repT s n)) ∧ w = w' := by
  have h0 : repT s 0 = (⟨#[]⟩ : ByteArray) := rfl
  have H0 := Lib.hid h0
  clear h0
  go_enter Tryz.func23, Tryz.ntmps23
  go_wp2_with fail
  go_loopg [5, 7] n (fun k o i wr => ∃ j : Nat, o = .string (repT s j) ∧ i = .int .i64 j ∧ k = n - j ∧ j ≤ n ∧ w = wr)
  case atStart => exact ⟨0, by rw [H0.out], rfl, rfl, Nat.zero_le _, rfl⟩
  case round =>
    obtain ⟨j, rfl, rfl, rfl, hj, rfl⟩ := hrel
    have hz : (repT s j).size ≤ 100000 := by
      rw [repT_size]
      exact Nat.le_trans (Nat.mul_le_mul hj hs) (by omega)
    by_cases hlt : j < n
    · have w1 : (j : Int) < n := by omega
      have w3 : IntKind.i64.wrap ((j : Int) + 1) = (j : Int) + 1 := IntWalk.i64_in _ (by omega)
      have HS := Lib.hid (repT_succ s j)
      go_wp2_with fail
      go_roundg (n - (j + 1))
      case measure => omega
      case rel => exact ⟨j + 1, by rw [HS.out], rfl, rfl, by omega, rfl⟩
    · have w1 : ¬ ((j : Int) < n) := by omega
      have hjn : j = n := by omega
      subst hjn
      go_wp2_with fail
      go_ret
      exact ⟨rfl, rfl⟩

set_option maxHeartbeats 4000000 in
theorem full_any (s : ByteArray) (w : World) (hs : s.size ≤ 2147483647) :
    Calls Tryz.prog 30 #[.string s] w fun e w' => e = .returned (.bool (fillOk s)) ∧ w = w' := by
  by_cases h : 0 < s.size
  · have hf : fillOk s = ((!((s[0].toNat : Int) == 32)) && (!(((s[s.size - 1]'(by omega)).toNat : Int) == 32))) := by unfold fillOk; rw [dif_pos h]
    have HF := Lib.hid hf
    clear hf
    have e0 : s.toList.isEmpty = false := bs_ne h
    have e0' : (!s.toList.isEmpty) = true := by rw [e0]; rfl
    have w1 : (0 : Int) < s.size := by omega
    have w2 : IntKind.i64.wrap ((s.size : Int) - 1) = (s.size : Int) - 1 := IntWalk.i64_in _ (by omega)
    have w3 : (0 : Int) ≤ (s.size : Int) - 1 := by omega
    have w4 : ((s.size : Int) - 1).toNat = s.size - 1 := by omega
    have w5 : (s.size : Int) - 1 < s.size := by omega
    go_enter Tryz.func30, Tryz.ntmps30
    go_wp2_with fail
    all_goals
      go_ret
      refine ⟨congrArg (fun b => Ending.returned (.bool b)) ?_, rfl⟩
      rw [HF.out]
      first | rfl | simp_all
  · have hf : fillOk s = false := by unfold fillOk; rw [dif_neg h]
    have hz : s = ⟨#[]⟩ := by
      apply ByteArray.ext_getElem
      · show s.size = 0; omega
      · intro i h1 h2; omega
    subst hz
    have HF := Lib.hid hf
    clear hf
    go_enter Tryz.func30, Tryz.ntmps30
    go_wp2_with fail
    go_ret
    exact ⟨by rw [HF.out]; rfl, rfl⟩

set_option maxHeartbeats 4000000 in
theorem ascii_any (s : ByteArray) (w : World) (hs : s.size ≤ 2147483647) :
    Calls Tryz.prog 22 #[.string s, .bool false] w fun e w' => e = .returned (.bool (prFrom s 0)) ∧ w = w' := by
  go_enter Tryz.func22, Tryz.ntmps22
  go_wp2_with fail
  go_loopg [5] s.size (fun k v wr => ∃ i : Nat, v = .int .i64 i ∧ k = s.size - i ∧ i ≤ s.size ∧ prFrom s i = prFrom s 0 ∧ w = wr)
  case atStart => exact ⟨0, rfl, rfl, Nat.zero_le _, rfl, rfl⟩
  case round =>
    obtain ⟨i, rfl, rfl, hi, hp, rfl⟩ := hrel
    have HP := Lib.hid hp
    clear hp
    by_cases hlt : i < s.size
    · have w1 : (i : Int) < s.size := by omega
      have w2 : (0 : Int) ≤ i := by omega
      have w3 : IntKind.i64.wrap ((i : Int) + 1) = (i : Int) + 1 := IntWalk.i64_in _ (by omega)
      have hun : prFrom s i = (32 ≤ s[i].toNat && s[i].toNat ≤ 126 && prFrom s (i + 1)) := by rw [prFrom, dif_pos hlt]
      have HU := Lib.hid hun
      clear hun
      by_cases hc : 32 ≤ s[i].toNat ∧ s[i].toNat ≤ 126
      · have c1 : ¬ ((s[i].toNat : Int) < 32) := by omega
        have c2 : ¬ ((126 : Int) < s[i].toNat) := by omega
        have Hc := Lib.hid hc
        clear hc
        go_wp2_with fail
        go_roundg (s.size - (i + 1))
        case measure => omega
        case rel => exact ⟨i + 1, by simp, rfl, by omega, by rw [← HP.out, HU.out]; simp [Hc.out.1, Hc.out.2], rfl⟩
      · have hf : prFrom s 0 = false := by
          rw [← HP.out, HU.out]
          by_cases h1 : 32 ≤ s[i].toNat
          · have : ¬ s[i].toNat ≤ 126 := fun h => hc ⟨h1, h⟩
            simp [this]
          · simp [h1]
        have HF := Lib.hid hf
        by_cases h1 : (s[i].toNat : Int) < 32
        · clear hc hf
          go_wp2_with fail
          go_ret
          exact ⟨by rw [HF.out]; rfl, rfl⟩
        · have h2 : (126 : Int) < s[i].toNat := by omega
          clear hc hf
          go_wp2_with fail
          go_ret
          exact ⟨by rw [HF.out]; rfl, rfl⟩
    · have hin : i = s.size := by omega
      have w1 : ¬ ((i : Int) < s.size) := by omega
      have ht : prFrom s 0 = true := by rw [← HP.out, hin, prFrom, dif_neg (Nat.lt_irrefl _)]
      have HT := Lib.hid ht
      clear ht
      go_wp2_with fail
      go_ret
      exact ⟨by rw [HT.out]; rfl, rfl⟩

theorem plain_any (w : World) :
    Calls Tryz.prog 25 #[] w fun e w' => e = .returned (.agg #[.bool false, .bool false, .bool false, .bool false, .bool false, .bool false, .bool false, .bool false, .bool false, .bool false]) ∧ Same w w' := by
  go_enter Tryz.func25, Tryz.ntmps25
  go_wp2_with fail
  refine bodyPost_ret (v := .agg #[.bool false, .bool false, .bool false, .bool false, .bool false, .bool false, .bool false, .bool false, .bool false, .bool false]) (by simp [results, Tryz.results25, go_sem]) rfl ⟨rfl, ?_⟩
  exact (Mods.refl _ w).alloc _
end Go.Proofs.YtdnlfdppjfjncaaGreatDoor
