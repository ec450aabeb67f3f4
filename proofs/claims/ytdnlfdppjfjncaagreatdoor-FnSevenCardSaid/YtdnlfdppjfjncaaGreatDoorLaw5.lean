/- The laws' own functions: EscapeHTML. -/
import Derived.Test.YtdnlfdppjfjncaaGreatDoorLaw4
namespace Go.Proofs.YtdnlfdppjfjncaaGreatDoor
open Go Go.RowKit Go.Proofs

theorem bs_app (a b : List UInt8) : ((⟨a.toArray⟩ : ByteArray) ++ (⟨b.toArray⟩ : ByteArray)) = ⟨(a ++ b).toArray⟩ := by
  apply ByteArray.ext
  simp

def strL (l : List UInt8) : ByteArray := ⟨l.toArray⟩
theorem strL_app (a b : List UInt8) : strL a ++ strL b = strL (a ++ b) := bs_app a b
theorem strL_size (a : List UInt8) : (strL a).size = a.length := by show a.toArray.size = _; simp
theorem strL_all (s : ByteArray) : strL s.data.toList = s := by apply ByteArray.ext; simp [strL]
theorem strL_ext (s : ByteArray) (j : Nat) (h : j < s.size) : s.extract j (j + 1) = strL [s[j]] := by rw [ext1 s j h]; rfl

theorem bne_byte {c : UInt8} {k : Nat} (h : c ≠ UInt8.ofNat k) (hk : k < 256) : ((c.toNat : Int) == (k : Int)) = false := by
  apply beq_eq_false_iff_ne.2
  intro e
  apply h
  apply UInt8.toNat_inj.1
  rw [UInt8.toNat_ofNat']
  omega

set_option maxHeartbeats 4000000 in
theorem EscapeHTML_any (s : ByteArray) (w : World) (hs : s.size ≤ 1000000) :
    Calls Tryz.prog 19 #[.string s] w fun e w' => e = .returned (.string (strL (s.data.toList.flatMap escB))) ∧ w = w' := by
  go_enter Tryz.func19, Tryz.ntmps19
  go_wp2_with fail
  go_loopg [3, 4] s.size (fun k o i wr => ∃ j : Nat, o = .string (strL (escN s j)) ∧ i = .int .i64 j ∧ k = s.size - j ∧ j ≤ s.size ∧ w = wr)
  case atStart => exact ⟨0, rfl, rfl, rfl, Nat.zero_le _, rfl⟩
  case round =>
    obtain ⟨j, rfl, rfl, rfl, hj, rfl⟩ := hrel
    have hlen := escN_len s j hj
    have hsz := strL_size (escN s j)
    by_cases hlt : j < s.size
    · have w1 : (j : Int) < s.size := by omega
      have w2 : (0 : Int) ≤ j := by omega
      have w3 : IntKind.i64.wrap ((j : Int) + 1) = (j : Int) + 1 := IntWalk.i64_in _ (by omega)
      have hsucc := escN_succ s j hlt
      have HS := Lib.hid hsucc
      have HX := Lib.hid (strL_ext s j hlt)
      clear hsucc
      by_cases h38 : s[j] = 38
      · have d : ((s[j].toNat : Int) == 38) = true := by rw [h38]; rfl
        have HE : Hid (escB s[j] = [38, 97, 109, 112, 59]) := by rw [h38]; rfl
        clear h38
        go_wp2_with fail
        go_roundg (s.size - (j + 1))
        case measure => omega
        case rel => exact ⟨j + 1, by rw [HS.out, HE.out, ← strL_app]; rfl, rfl, rfl, by omega, rfl⟩
      · have d1 : ((s[j].toNat : Int) == 38) = false := bne_byte (k := 38) h38 (by omega)
        by_cases h60 : s[j] = 60
        · have d : ((s[j].toNat : Int) == 60) = true := by rw [h60]; rfl
          have HE : Hid (escB s[j] = [38, 108, 116, 59]) := by rw [h60]; rfl
          clear h60 h38
          go_wp2_with fail
          go_roundg (s.size - (j + 1))
          case measure => omega
          case rel => exact ⟨j + 1, by rw [HS.out, HE.out, ← strL_app]; rfl, rfl, rfl, by omega, rfl⟩
        · have d2 : ((s[j].toNat : Int) == 60) = false := bne_byte (k := 60) h60 (by omega)
          by_cases h62 : s[j] = 62
          · have d : ((s[j].toNat : Int) == 62) = true := by rw [h62]; rfl
            have HE : Hid (escB s[j] = [38, 103, 116, 59]) := by rw [h62]; rfl
            clear h60 h38 h62
            go_wp2_with fail
            go_roundg (s.size - (j + 1))
            case measure => omega
            case rel => exact ⟨j + 1, by rw [HS.out, HE.out, ← strL_app]; rfl, rfl, rfl, by omega, rfl⟩
          · have d3 : ((s[j].toNat : Int) == 62) = false := bne_byte (k := 62) h62 (by omega)
            by_cases h34 : s[j] = 34
            · have d : ((s[j].toNat : Int) == 34) = true := by rw [h34]; rfl
              have HE : Hid (escB s[j] = [38, 113, 117, 111, 116, 59]) := by rw [h34]; rfl
              clear h60 h38 h62 h34
              go_wp2_with fail
              go_roundg (s.size - (j + 1))
              case measure => omega
              case rel => exact ⟨j + 1, by rw [HS.out, HE.out, ← strL_app]; rfl, rfl, rfl, by omega, rfl⟩
            · have d4 : ((s[j].toNat : Int) == 34) = false := bne_byte (k := 34) h34 (by omega)
              have HE : Hid (escB s[j] = [s[j]]) := by show escB _ = _; unfold escB; rw [if_neg h34, if_neg h38, if_neg h60, if_neg h62]
              clear h60 h38 h62 h34
              go_wp2_with fail
              go_roundg (s.size - (j + 1))
              case measure => omega
              case rel => exact ⟨j + 1, by rw [HS.out, HE.out, ← strL_app, ← HX.out], rfl, rfl, by omega, rfl⟩
    · have w1 : ¬ ((j : Int) < s.size) := by omega
      have hjs : j = s.size := by omega
      subst hjs
      have hall := escN_all s
      have HA := Lib.hid hall
      clear hall
      go_wp2_with fail
      go_ret
      exact ⟨congrArg (fun t => Ending.returned (Value.string (strL t))) HA.out, rfl⟩
end Go.Proofs.YtdnlfdppjfjncaaGreatDoor
