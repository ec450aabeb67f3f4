/- trimSpaceTab of a text that neither begins nor ends with white space. -/
import Derived.Test.YtdnlfdppjfjncaaGreatDoorInline2
namespace Go.Proofs.YtdnlfdppjfjncaaGreatDoor
open Go Go.RowKit Go.Proofs

theorem ext_all (s : ByteArray) : s.extract 0 s.size = s := by simp

set_option maxHeartbeats 2000000 in
theorem trimSpaceTab_id (s : ByteArray) (w : World) (hs : s.size ≤ 1000000) (h0 : 0 < s.size) (h1 : isW s[0] = false) (h2 : isW (s[s.size - 1]'(by omega)) = false) :
    Calls Tryz.prog 74 #[.string s] w fun e w' => e = .returned (.string s) ∧ w = w' := by
  obtain ⟨a1, a2⟩ := isW_no h1
  obtain ⟨b1, b2⟩ := isW_no h2
  clear h1 h2
  have w1 : (0 : Int) < s.size := by omega
  have w2 : IntKind.i64.wrap ((s.size : Int) - 1) = (s.size : Int) - 1 := IntWalk.i64_in _ (by omega)
  have w3 : (0 : Int) ≤ (s.size : Int) - 1 := by omega
  have w4 : ((s.size : Int) - 1).toNat = s.size - 1 := by omega
  have w5 : (s.size : Int) - 1 < s.size := by omega
  have he := ext_all s
  go_enter Tryz.func74, Tryz.ntmps74
  go_wp2_with fail
  go_loopg [3] 0 (fun k v wr => v = .int .i64 0 ∧ w = wr)
  case atStart => exact ⟨rfl, rfl⟩
  case round =>
    obtain ⟨rfl, rfl⟩ := hrel
    go_wp2_with fail
    go_loopg [4] 0 (fun k v wr => v = .int .i64 s.size ∧ w = wr)
    case atStart => exact ⟨rfl, rfl⟩
    case round =>
      obtain ⟨rfl, rfl⟩ := hrel
      go_wp2_with fail
      go_ret
      exact ⟨rfl, rfl⟩
end Go.Proofs.YtdnlfdppjfjncaaGreatDoor
