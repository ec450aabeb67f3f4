/- Further small functions on lines, walked. -/
import Derived.Test.YtdnlfdppjfjncaaGreatDoorLine
namespace Go.Proofs.YtdnlfdppjfjncaaGreatDoor
open Go Go.RowKit Go.Proofs

/-- A byte that is a space or a tab. -/
def isW (c : UInt8) : Bool := c == 32 || c == 9

theorem isW_yes {c : UInt8} (h : isW c = true) (h9 : c ≠ 9) : (c.toNat : Int) = 32 := by
  simp [isW] at h
  rcases h with h | h
  · subst h; rfl
  · exact absurd h h9
theorem isW_no {c : UInt8} (h : isW c = false) : ((c.toNat : Int) == 32) = false ∧ ((c.toNat : Int) == 9) = false := by
  simp [isW] at h
  exact ⟨beq_eq_false_iff_ne.2 (ne32 h.1), beq_eq_false_iff_ne.2 (ne9 h.2)⟩

/-- The first place from i on where no white space stands. -/
def ws (s : ByteArray) (i : Nat) : Nat := if h : i < s.size then (if isW s[i] then ws s (i + 1) else i) else i
termination_by s.size - i

theorem ws_le (s : ByteArray) (i : Nat) (hi : i ≤ s.size) : i ≤ ws s i ∧ ws s i ≤ s.size := by
  rw [ws]
  split
  · split
    · have := ws_le s (i + 1) (by omega); omega
    · omega
  · omega
termination_by s.size - i

/-- The place behind the last byte that is no white space, up to j. -/
def wsr (s : ByteArray) : Nat → Nat
  | 0 => 0
  | j + 1 => if h : j < s.size then (if isW s[j] then wsr s j else j + 1) else j + 1

theorem wsr_le (s : ByteArray) : ∀ j, wsr s j ≤ j
  | 0 => Nat.le_refl _
  | j + 1 => by
    unfold wsr
    split
    · split
      · have := wsr_le s j; omega
      · omega
    · omega

def trimL (s : ByteArray) : ByteArray := s.extract (ws s 0) s.size
def trimR (s : ByteArray) : ByteArray := s.extract 0 (wsr s s.size)

set_option maxHeartbeats 1000000 in
theorem trimLeft_any (s : ByteArray) (w : World) (hs : s.size ≤ 1000000) :
    Calls Tryz.prog 94 #[.string s] w fun e w' => e = .returned (.string (trimL s)) ∧ w = w' := by
  go_enter Tryz.func94, Tryz.ntmps94
  go_wp2
  go_loop [3] (fun i => ∃ k : Nat, i = .int .i64 k ∧ k ≤ s.size ∧ ws s k = ws s 0) (fun i => s.size - (intOf i).toNat)
  case atStart => exact ⟨0, rfl, Nat.zero_le _, rfl⟩
  case round =>
    obtain ⟨k, rfl, hk, hw⟩ := hrel
    have HW := Lib.hid hw
    clear hw
    by_cases hlt : k < s.size
    · have hun : ws s k = if isW s[k] then ws s (k + 1) else k := by rw [ws, dif_pos hlt]
      by_cases hc : isW s[k] = true
      · have HN : Hid (ws s (k + 1) = ws s 0) := by show ws s (k + 1) = ws s 0; rw [← HW.out, hun, if_pos hc]
        have hd : (s[k].toNat : Int) = 32 ∨ (s[k].toNat : Int) = 9 := by
          simp [isW] at hc
          rcases hc with h | h <;> rw [h] <;> decide
        clear hun hc
        rcases hd with hd | hd
        all_goals
          go_wp2
          go_round
          case rel => exact ⟨k + 1, by go_num, by omega, HN.out⟩
          case measure => simp [intOf]; omega
      · obtain ⟨hc1, hc2⟩ := isW_no (by simpa using hc)
        have HN : Hid (ws s 0 = k) := by show ws s 0 = k; rw [← HW.out, hun, if_neg hc]
        clear hun hc
        go_wp2
        go_ret
        exact ⟨by unfold trimL; rw [HN.out]; rfl, rfl⟩
    · have HN : Hid (ws s 0 = k) := by show ws s 0 = k; rw [← HW.out, ws, dif_neg hlt]
      go_wp2
      go_ret
      exact ⟨by unfold trimL; rw [HN.out]; rfl, rfl⟩

set_option maxHeartbeats 1000000 in
theorem trim_no (b i : Nat) (text : ByteArray) (c : Int) (nl : Int) (w : World) (hi : i ≤ text.size) (hL : LineAt w b i text nl)
    (hne : ∀ h : i < text.size, (text[i].toNat : Int) ≠ c) :
    Calls Tryz.prog 181 #[.pointer (some ⟨b, 0, none⟩), .int .u8 c] w fun e w' => e = .returned (.bool false) ∧ ∃ n, w' = w.drewN n := by
  obtain ⟨h0, h1, h2, h3, h4, hf0, hf1, hf2, hf3, hf4, hbl⟩ := hL.facts
  by_cases hend : i < text.size
  · have hcc := hne hend
    have hlt : (i : Int) < (text.size : Int) := by omega
    clear hne
    go_enter Tryz.func181, Tryz.ntmps181
    go_wp2_with fail
    go_quiet (fail)
    go_wp2
    go_ret
    exact ⟨rfl, _, rfl⟩
  · have hd : decide ((i : Int) < (text.size : Int)) = false := by simp; omega
    clear hne
    go_enter Tryz.func181, Tryz.ntmps181
    go_wp2_with fail
    go_quiet (fail)
    go_wp2
    go_ret
    exact ⟨rfl, _, rfl⟩

set_option maxHeartbeats 1000000 in
theorem trim_yes (b i : Nat) (text : ByteArray) (c : Int) (nl : Int) (w : World) (hs : text.size ≤ 1000000) (hL : LineAt w b i text nl)
    (hend : i < text.size) (heq : (text[i].toNat : Int) = c) :
    Calls Tryz.prog 181 #[.pointer (some ⟨b, 0, none⟩), .int .u8 c] w fun e w' => e = .returned (.bool true) ∧ Mods (· = b) w w' ∧ LineAt w' b (i + 1) text nl := by
  obtain ⟨h0, h1, h2, h3, h4, hf0, hf1, hf2, hf3, hf4, hbl⟩ := hL.facts
  have hlt : (i : Int) < (text.size : Int) := by omega
  go_enter Tryz.func181, Tryz.ntmps181
  go_wp2_with fail
  go_quiet (fail)
  go_wp2
  go_ret
  refine ⟨rfl, ?_, ?_⟩
  · exact ((Mods.refl (fun k => k = b) w).setCell (p := ⟨b, 1, none⟩) (fun _ => rfl) _).drewN _
  · exact Blk.drewN (Blk.set_same hL 1 _) _

/-- The byte at a place, 0 behind the end. -/
def at0 (s : ByteArray) (i : Nat) : UInt8 := if h : i < s.size then s[i] else 0

set_option maxHeartbeats 1000000 in
theorem peek_any (b i : Nat) (text : ByteArray) (nl : Int) (w : World) (_hs : text.size ≤ 1000000) (hL : LineAt w b i text nl) :
    Calls Tryz.prog 183 #[.pointer (some ⟨b, 0, none⟩)] w fun e w' => e = .returned (.int .u8 (at0 text i).toNat) ∧ ∃ n, w' = w.drewN n := by
  obtain ⟨h0, h1, h2, h3, h4, hf0, hf1, hf2, hf3, hf4, hbl⟩ := hL.facts
  by_cases hend : i < text.size
  · have hlt : (i : Int) < (text.size : Int) := by omega
    have HV : Hid (at0 text i = text[i]) := by show at0 text i = _; simp [at0, hend]
    go_enter Tryz.func183, Tryz.ntmps183
    go_wp2_with fail
    go_quiet (fail)
    go_wp2_with fail
    go_quiet (fail)
    go_wp2
    go_ret
    exact ⟨by rw [HV.out]; rfl, _, World.drewN_drewN _ _ _⟩
  · have HV : Hid (at0 text i = 0) := by show at0 text i = _; simp [at0, hend]
    go_enter Tryz.func183, Tryz.ntmps183
    go_wp2_with fail
    go_quiet (fail)
    go_wp2
    go_ret
    exact ⟨by rw [HV.out]; rfl, _, rfl⟩

set_option maxHeartbeats 1000000 in
theorem isBlank_any (b i : Nat) (text : ByteArray) (nl : Int) (w : World) (hs : text.size ≤ 1000000) (hi : i ≤ text.size) (hL : LineAt w b i text nl) :
    Calls Tryz.prog 70 #[.pointer (some ⟨b, 0, none⟩)] w fun e w' => e = .returned (.bool (trimL (text.extract i text.size)).toList.isEmpty) ∧ ∃ n, w' = w.drewN n := by
  obtain ⟨h0, h1, h2, h3, h4, hf0, hf1, hf2, hf3, hf4, hbl⟩ := hL.facts
  have hz : (text.extract i text.size).size ≤ 1000000 := by simp; omega
  go_enter Tryz.func70, Tryz.ntmps70
  go_wp2
  go_quiet ((go_at_call 94; exact Calls.quiet_of_same ((trimLeft_any _ _ hz).mono (fun _ _ h => ⟨h.1, h.2.symm⟩))))
  go_wp2
  go_ret
  exact ⟨rfl, _, rfl⟩

set_option maxHeartbeats 1000000 in
theorem lineString_any (b i : Nat) (text : ByteArray) (nl : Int) (w : World) (_hs : text.size ≤ 1000000) (hi : i ≤ text.size) (hL : LineAt w b i text nl) :
    Calls Tryz.prog 136 #[.pointer (some ⟨b, 0, none⟩)] w fun e w' => e = .returned (.string (text.extract i text.size)) ∧ ∃ n, w' = w.drewN n := by
  obtain ⟨h0, h1, h2, h3, h4, hf0, hf1, hf2, hf3, hf4, hbl⟩ := hL.facts
  go_enter Tryz.func136, Tryz.ntmps136
  go_wp2_with fail
  go_quiet (fail)
  go_wp2
  go_ret
  exact ⟨rfl, _, rfl⟩

set_option maxHeartbeats 1000000 in
theorem trimSpaceString_any (b i : Nat) (text : ByteArray) (nl : Int) (w : World) (hs : text.size ≤ 1000000) (hi : i ≤ text.size) (hL : LineAt w b i text nl) :
    Calls Tryz.prog 104 #[.pointer (some ⟨b, 0, none⟩)] w fun e w' => e = .returned (.string (trimL (text.extract i text.size))) ∧ ∃ n, w' = w.drewN n := by
  obtain ⟨h0, h1, h2, h3, h4, hf0, hf1, hf2, hf3, hf4, hbl⟩ := hL.facts
  have hz : (text.extract i text.size).size ≤ 1000000 := by simp; omega
  go_enter Tryz.func104, Tryz.ntmps104
  go_wp2_with fail
  go_quiet ((go_at_call 94; exact Calls.quiet_of_same ((trimLeft_any _ _ hz).mono (fun _ _ h => ⟨h.1, h.2.symm⟩))))
  go_wp2
  go_ret
  exact ⟨rfl, _, rfl⟩
end Go.Proofs.YtdnlfdppjfjncaaGreatDoor
