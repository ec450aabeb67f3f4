/- isPunct, parseEscape on a sign. -/
import Derived.Test.YtdnlfdppjfjncaaGreatDoorInl
namespace Go.Proofs.YtdnlfdppjfjncaaGreatDoor
open Go Go.RowKit Go.Proofs

def punct (c : UInt8) : Bool := (33 ≤ c.toNat && c.toNat ≤ 47) || (58 ≤ c.toNat && c.toNat ≤ 64) || (91 ≤ c.toNat && c.toNat ≤ 96) || (123 ≤ c.toNat && c.toNat ≤ 126)

set_option maxHeartbeats 4000000 in
theorem isPunct_any (c : UInt8) (w : World) :
    Calls Tryz.prog 109 #[.int .u8 c.toNat] w fun e w' => e = .returned (.bool (punct c)) ∧ w = w' := by
  have hc : punct c = ((33 ≤ c.toNat && c.toNat ≤ 47) || (58 ≤ c.toNat && c.toNat ≤ 64) || (91 ≤ c.toNat && c.toNat ≤ 96) || (123 ≤ c.toNat && c.toNat ≤ 126)) := rfl
  generalize punct c = b at *
  have HC := Lib.hid hc
  clear hc
  go_enter Tryz.func109, Tryz.ntmps109
  go_wp2_with fail
  all_goals
    go_ret
    refine ⟨congrArg (fun b => Ending.returned (.bool b)) ?_, rfl⟩
    rw [HC.out, Bool.eq_iff_iff]
    simp
    omega

set_option maxHeartbeats 2000000 in
theorem parseEscape_punct (a : Value) (s : ByteArray) (i : Nat) (w : World) (hi : i + 1 < s.size) (hs : s.size ≤ 1000000) (hp : punct s[i + 1] = true) :
    Calls Tryz.prog 75 #[a, .string s, .int .i64 i] w fun e w' => ∃ b, e = .returned (.tuple #[.iface 176 (.pointer (some ⟨b, 0, none⟩)), .int .i64 i, .int .i64 (i + 2 : Nat), .bool true]) ∧
      Same w w' ∧ w.heap.size ≤ b ∧ Blk w' b #[.string (s.extract (i + 1) (i + 2))] 178 := by
  have w1 : IntKind.i64.wrap ((i : Int) + 1) = (i : Int) + 1 := IntWalk.i64_in _ (by omega)
  have w2 : IntKind.i64.wrap ((i : Int) + 2) = (i : Int) + 2 := IntWalk.i64_in _ (by omega)
  have w3 : (i : Int) + 1 < s.size := by omega
  have w4 : (0 : Int) ≤ (i : Int) + 1 := by omega
  have w5 : ((i : Int) + 1).toNat = i + 1 := by omega
  have w6 : ((i : Int) + 2).toNat = i + 2 := by omega
  have w7 : (i : Int) + 1 ≤ (i : Int) + 2 := by omega
  have w8 : (i : Int) + 2 ≤ s.size := by omega
  go_enter Tryz.func75, Tryz.ntmps75
  go_wp2_with fail
  refine (isPunct_any _ w).mono ?_
  rintro e w' ⟨rfl, rfl⟩
  rw [hp]
  go_wp2_with fail
  try rw [Exit.noGoto_ret]
  refine bodyPost_ret (v := .tuple #[.iface 176 (.pointer (some ⟨w.heap.size, 0, none⟩)), .int .i64 i, .int .i64 (i + 2 : Nat), .bool true]) (by simp [results, Tryz.results75, go_sem]) rfl ?_
  exact ⟨_, rfl, (Mods.refl _ w).alloc _, Nat.le_refl _, Blk.newAt _ _ rfl⟩
end Go.Proofs.YtdnlfdppjfjncaaGreatDoor
