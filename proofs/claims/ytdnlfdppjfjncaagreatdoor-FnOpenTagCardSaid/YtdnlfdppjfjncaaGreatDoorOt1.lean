/- Some texts of one proof, put into one file: Ltr0, Tag1, Tag2, Only0, Tag3, Tag4. -/
import Derived.Test.YtdnlfdppjfjncaaGreatDoorAu4
import Derived.Test.YtdnlfdppjfjncaaGreatDoorAu9
/- Letters and digits. -/
namespace Go.Proofs.YtdnlfdppjfjncaaGreatDoor
open Go Go.RowKit Go.Proofs

def ltrB (c : UInt8) : Bool := (97 ≤ c.toNat && c.toNat ≤ 122) || (65 ≤ c.toNat && c.toNat ≤ 90)
def digB (c : UInt8) : Bool := 48 ≤ c.toNat && c.toNat ≤ 57
end Go.Proofs.YtdnlfdppjfjncaaGreatDoor

/- Letters, digits, blanks; runs of signs: skipSpace, parseTagName. -/
namespace Go.Proofs.YtdnlfdppjfjncaaGreatDoor
open Go Go.RowKit Go.Proofs

def ldB (c : UInt8) : Bool := ltrB c || digB c
def ldhB (c : UInt8) : Bool := ldB c || c == 45
def spB (c : UInt8) : Bool := c == 32 || c == 9 || c == 10
/-- Where a run of such signs ends that begins at place i. -/
def rn (P : UInt8 → Bool) (s : ByteArray) (i : Nat) : Nat := i + ((s.data.toList.drop i).takeWhile P).length

theorem drop_at (s : ByteArray) (i : Nat) (h : i < s.size) : s.data.toList.drop i = s[i] :: s.data.toList.drop (i + 1) := by
  have h' : i < s.data.toList.length := h
  rw [List.drop_eq_getElem_cons h']
  rfl
theorem rn_step {P : UInt8 → Bool} {s : ByteArray} {i : Nat} (h : i < s.size) (hp : P s[i] = true) : rn P s i = rn P s (i + 1) := by
  unfold rn
  rw [drop_at s i h, List.takeWhile_cons_of_pos hp, List.length_cons]
  omega
theorem rn_stop {P : UInt8 → Bool} {s : ByteArray} {i : Nat} (h : i < s.size) (hp : P s[i] = false) : rn P s i = i := by
  unfold rn
  rw [drop_at s i h, List.takeWhile_cons_of_neg (by rw [hp]; exact Bool.false_ne_true), List.length_nil]
  omega
theorem rn_end {P : UInt8 → Bool} {s : ByteArray} {i : Nat} (h : s.size ≤ i) : rn P s i = i := by
  unfold rn
  rw [List.drop_eq_nil_of_le (show s.data.toList.length ≤ i from h)]
  rfl
theorem rn_ge {P : UInt8 → Bool} {s : ByteArray} {i : Nat} : i ≤ rn P s i := Nat.le_add_right _ _
theorem rn_le {P : UInt8 → Bool} {s : ByteArray} {i : Nat} (h : i ≤ s.size) : rn P s i ≤ s.size := by
  unfold rn
  have h1 := (List.takeWhile_prefix (p := P) (l := s.data.toList.drop i)).length_le
  rw [List.length_drop] at h1
  have e : s.data.toList.length = s.size := rfl
  omega

set_option maxHeartbeats 2000000 in
theorem isLetter_any (c : UInt8) (w : World) : Calls Tryz.prog 152 #[.int .u8 c.toNat] w fun e w' => e = .returned (.bool (ltrB c)) ∧ w = w' := by
  have hcases : c.toNat < 65 ∨ (65 ≤ c.toNat ∧ c.toNat ≤ 90) ∨ (90 < c.toNat ∧ c.toNat < 97) ∨ (97 ≤ c.toNat ∧ c.toNat ≤ 122) ∨ 122 < c.toNat := by omega
  rcases hcases with h | h | h | h | h
  · have HL : Hid (ltrB c = false) := by show ltrB c = false; simp [ltrB]; omega
    have w0 : ¬ ((65 : Int) ≤ c.toNat) := by omega
    have w1 : ¬ ((97 : Int) ≤ c.toNat) := by omega
    clear h
    go_enter Tryz.func152, Tryz.ntmps152
    go_wp2_with fail
    go_ret
    exact ⟨by rw [HL.out]; rfl, rfl⟩
  · have HL : Hid (ltrB c = true) := by show ltrB c = true; simp [ltrB]; omega
    have w0 : (65 : Int) ≤ c.toNat := by omega
    have w1 : (c.toNat : Int) ≤ 90 := by omega
    clear h
    go_enter Tryz.func152, Tryz.ntmps152
    go_wp2_with fail
    go_ret
    exact ⟨by rw [HL.out]; rfl, rfl⟩
  · have HL : Hid (ltrB c = false) := by show ltrB c = false; simp [ltrB]; omega
    have w0 : (65 : Int) ≤ c.toNat := by omega
    have w1 : ¬ ((c.toNat : Int) ≤ 90) := by omega
    have w2 : ¬ ((97 : Int) ≤ c.toNat) := by omega
    clear h
    go_enter Tryz.func152, Tryz.ntmps152
    go_wp2_with fail
    go_ret
    exact ⟨by rw [HL.out]; rfl, rfl⟩
  · have HL : Hid (ltrB c = true) := by show ltrB c = true; simp [ltrB]; omega
    have w0 : (65 : Int) ≤ c.toNat := by omega
    have w1 : ¬ ((c.toNat : Int) ≤ 90) := by omega
    have w2 : (97 : Int) ≤ c.toNat := by omega
    have w3 : (c.toNat : Int) ≤ 122 := by omega
    clear h
    go_enter Tryz.func152, Tryz.ntmps152
    go_wp2_with fail
    go_ret
    exact ⟨by rw [HL.out]; rfl, rfl⟩
  · have HL : Hid (ltrB c = false) := by show ltrB c = false; simp [ltrB]; omega
    have w0 : (65 : Int) ≤ c.toNat := by omega
    have w1 : ¬ ((c.toNat : Int) ≤ 90) := by omega
    have w2 : (97 : Int) ≤ c.toNat := by omega
    have w3 : ¬ ((c.toNat : Int) ≤ 122) := by omega
    clear h
    go_enter Tryz.func152, Tryz.ntmps152
    go_wp2_with fail
    go_ret
    exact ⟨by rw [HL.out]; rfl, rfl⟩

set_option maxHeartbeats 2000000 in
theorem isLD_any (c : UInt8) (w : World) : Calls Tryz.prog 140 #[.int .u8 c.toNat] w fun e w' => e = .returned (.bool (ldB c)) ∧ w = w' := by
  have hcases : c.toNat < 48 ∨ (48 ≤ c.toNat ∧ c.toNat ≤ 57) ∨ (57 < c.toNat ∧ c.toNat < 65) ∨ (65 ≤ c.toNat ∧ c.toNat ≤ 90) ∨ (90 < c.toNat ∧ c.toNat < 97) ∨ (97 ≤ c.toNat ∧ c.toNat ≤ 122) ∨ 122 < c.toNat := by omega
  rcases hcases with h | h | h | h | h | h | h
  · have HL : Hid (ldB c = false) := by show ldB c = false; simp [ltrB, digB, ldB]; omega
    have w0 : ¬ ((65 : Int) ≤ c.toNat) := by omega
    have w1 : ¬ ((97 : Int) ≤ c.toNat) := by omega
    have w2 : ¬ ((48 : Int) ≤ c.toNat) := by omega
    clear h
    go_enter Tryz.func140, Tryz.ntmps140
    go_wp2_with fail
    go_ret
    exact ⟨by rw [HL.out]; rfl, rfl⟩
  · have HL : Hid (ldB c = true) := by show ldB c = true; simp [ltrB, digB, ldB]; omega
    have w0 : ¬ ((65 : Int) ≤ c.toNat) := by omega
    have w1 : ¬ ((97 : Int) ≤ c.toNat) := by omega
    have w2 : (48 : Int) ≤ c.toNat := by omega
    have w3 : (c.toNat : Int) ≤ 57 := by omega
    clear h
    go_enter Tryz.func140, Tryz.ntmps140
    go_wp2_with fail
    go_ret
    exact ⟨by rw [HL.out]; rfl, rfl⟩
  · have HL : Hid (ldB c = false) := by show ldB c = false; simp [ltrB, digB, ldB]; omega
    have w0 : ¬ ((65 : Int) ≤ c.toNat) := by omega
    have w1 : ¬ ((97 : Int) ≤ c.toNat) := by omega
    have w2 : (48 : Int) ≤ c.toNat := by omega
    have w3 : ¬ ((c.toNat : Int) ≤ 57) := by omega
    clear h
    go_enter Tryz.func140, Tryz.ntmps140
    go_wp2_with fail
    go_ret
    exact ⟨by rw [HL.out]; rfl, rfl⟩
  · have HL : Hid (ldB c = true) := by show ldB c = true; simp [ltrB, digB, ldB]; omega
    have w0 : (65 : Int) ≤ c.toNat := by omega
    have w1 : (c.toNat : Int) ≤ 90 := by omega
    clear h
    go_enter Tryz.func140, Tryz.ntmps140
    go_wp2_with fail
    go_ret
    exact ⟨by rw [HL.out]; rfl, rfl⟩
  · have HL : Hid (ldB c = false) := by show ldB c = false; simp [ltrB, digB, ldB]; omega
    have w0 : (65 : Int) ≤ c.toNat := by omega
    have w1 : ¬ ((c.toNat : Int) ≤ 90) := by omega
    have w2 : ¬ ((97 : Int) ≤ c.toNat) := by omega
    have w3 : (48 : Int) ≤ c.toNat := by omega
    have w4 : ¬ ((c.toNat : Int) ≤ 57) := by omega
    clear h
    go_enter Tryz.func140, Tryz.ntmps140
    go_wp2_with fail
    go_ret
    exact ⟨by rw [HL.out]; rfl, rfl⟩
  · have HL : Hid (ldB c = true) := by show ldB c = true; simp [ltrB, digB, ldB]; omega
    have w0 : (65 : Int) ≤ c.toNat := by omega
    have w1 : ¬ ((c.toNat : Int) ≤ 90) := by omega
    have w2 : (97 : Int) ≤ c.toNat := by omega
    have w3 : (c.toNat : Int) ≤ 122 := by omega
    clear h
    go_enter Tryz.func140, Tryz.ntmps140
    go_wp2_with fail
    go_ret
    exact ⟨by rw [HL.out]; rfl, rfl⟩
  · have HL : Hid (ldB c = false) := by show ldB c = false; simp [ltrB, digB, ldB]; omega
    have w0 : (65 : Int) ≤ c.toNat := by omega
    have w1 : ¬ ((c.toNat : Int) ≤ 90) := by omega
    have w2 : (97 : Int) ≤ c.toNat := by omega
    have w3 : ¬ ((c.toNat : Int) ≤ 122) := by omega
    have w4 : (48 : Int) ≤ c.toNat := by omega
    have w5 : ¬ ((c.toNat : Int) ≤ 57) := by omega
    clear h
    go_enter Tryz.func140, Tryz.ntmps140
    go_wp2_with fail
    go_ret
    exact ⟨by rw [HL.out]; rfl, rfl⟩

theorem isLDH_any (c : UInt8) (w : World) : Calls Tryz.prog 193 #[.int .u8 c.toNat] w fun e w' => e = .returned (.bool (ldhB c)) ∧ w = w' := by
  have HB : Hid (ldhB c = (ldB c || c == 45)) := rfl
  have HE : Hid (((c.toNat : Int) == 45) = (c == 45)) := by
    show ((c.toNat : Int) == 45) = (c == 45)
    by_cases h : c = 45
    · subst h; rfl
    · rw [beq_eq_false_iff_ne.2 h]
      exact beq_eq_false_iff_ne.2 (fun he => h (UInt8.toNat_inj.1 (by show _ = 45; omega)))
  go_enter Tryz.func193, Tryz.ntmps193
  go_wp2_with fail
  refine (isLD_any c w).mono ?_
  rintro e w' ⟨rfl, rfl⟩
  cases hl : ldB c with
  | true =>
    have HL := Lib.hid hl
    clear hl
    go_wp2_with fail
    go_ret
    exact ⟨by rw [HB.out, HL.out]; rfl, rfl⟩
  | false =>
    have HL := Lib.hid hl
    clear hl
    go_wp2_with fail
    go_ret
    exact ⟨by rw [HB.out, HL.out, Bool.false_or, ← HE.out]; rfl, rfl⟩

theorem d_yes {c : UInt8} {n : Nat} (h : c.toNat = n) : ((c.toNat : Int) == (n : Int)) = true := by rw [h]; simp
theorem d_no {c : UInt8} {n : Nat} (h : c.toNat ≠ n) : ((c.toNat : Int) == (n : Int)) = false := beq_eq_false_iff_ne.2 (fun he => h (by omega))
theorem spB_yes {c : UInt8} (h : c.toNat = 32 ∨ c.toNat = 9 ∨ c.toNat = 10) : spB c = true := by
  rcases h with h | h | h
  · have : c = 32 := UInt8.toNat_inj.1 h
    subst this; rfl
  · have : c = 9 := UInt8.toNat_inj.1 h
    subst this; rfl
  · have : c = 10 := UInt8.toNat_inj.1 h
    subst this; rfl
theorem spB_no {c : UInt8} (h1 : c.toNat ≠ 32) (h2 : c.toNat ≠ 9) (h3 : c.toNat ≠ 10) : spB c = false := by
  have e1 : c ≠ 32 := fun e => h1 (by rw [e]; rfl)
  have e2 : c ≠ 9 := fun e => h2 (by rw [e]; rfl)
  have e3 : c ≠ 10 := fun e => h3 (by rw [e]; rfl)
  simp [spB, e1, e2, e3]

set_option maxHeartbeats 4000000 in
theorem skipSpace_any (s : ByteArray) (i : Nat) (w : World) (hs : s.size ≤ 1000000) (hi9 : i ≤ 2000000) :
    Calls Tryz.prog 124 #[.string s, .int .i64 i] w fun e w' => e = .returned (.int .i64 (rn spB s i)) ∧ w = w' := by
  go_enter Tryz.func124, Tryz.ntmps124
  go_wp2_with fail
  go_loopg [1] (s.size - i) (fun k v wr => ∃ j : Nat, v = .int .i64 j ∧ k = s.size - j ∧ j ≤ 2000000 ∧ rn spB s j = rn spB s i ∧ w = wr)
  case atStart => exact ⟨i, rfl, rfl, hi9, rfl, rfl⟩
  case round =>
    obtain ⟨j, rfl, rfl, hj, hp, rfl⟩ := hrel
    have HP := Lib.hid hp
    clear hp
    by_cases hlt : j < s.size
    · have v1 : (j : Int) < s.size := by omega
      have v2 : (0 : Int) ≤ j := by omega
      have v3 : IntKind.i64.wrap ((j : Int) + 1) = (j : Int) + 1 := IntWalk.i64_in _ (by omega)
      by_cases c1 : s[j].toNat = 32
      · have d1 : ((s[j].toNat : Int) == 32) = true := d_yes c1
        have HS := Lib.hid (rn_step hlt (spB_yes (Or.inl c1)))
        clear c1
        go_wp2_with fail
        go_roundg (s.size - (j + 1))
        case measure => omega
        case rel => exact ⟨j + 1, by simp, rfl, by omega, by rw [← HS.out, HP.out], rfl⟩
      · have d1 : ((s[j].toNat : Int) == 32) = false := d_no c1
        by_cases c2 : s[j].toNat = 9
        · have d2 : ((s[j].toNat : Int) == 9) = true := d_yes c2
          have HS := Lib.hid (rn_step hlt (spB_yes (Or.inr (Or.inl c2))))
          clear c1 c2
          go_wp2_with fail
          go_roundg (s.size - (j + 1))
          case measure => omega
          case rel => exact ⟨j + 1, by simp, rfl, by omega, by rw [← HS.out, HP.out], rfl⟩
        · have d2 : ((s[j].toNat : Int) == 9) = false := d_no c2
          by_cases c3 : s[j].toNat = 10
          · have d3 : ((s[j].toNat : Int) == 10) = true := d_yes c3
            have HS := Lib.hid (rn_step hlt (spB_yes (Or.inr (Or.inr c3))))
            clear c1 c2 c3
            go_wp2_with fail
            go_roundg (s.size - (j + 1))
            case measure => omega
            case rel => exact ⟨j + 1, by simp, rfl, by omega, by rw [← HS.out, HP.out], rfl⟩
          · have d3 : ((s[j].toNat : Int) == 10) = false := d_no c3
            have HS := Lib.hid (rn_stop hlt (spB_no c1 c2 c3))
            clear c1 c2 c3
            go_wp2_with fail
            go_ret
            exact ⟨by rw [← HP.out, HS.out]; rfl, rfl⟩
    · have v1 : ¬ (j : Int) < s.size := by omega
      have HS := Lib.hid (rn_end (P := spB) (s := s) (i := j) (by omega))
      go_wp2_with fail
      go_ret
      exact ⟨by rw [← HP.out, HS.out]; rfl, rfl⟩

/-- A name of a tag from place i on: where it ends. -/
def tagN (s : ByteArray) (i : Nat) : Option Nat := if h : i < s.size then (if ltrB s[i] then some (rn ldhB s (i + 1)) else none) else none

set_option maxHeartbeats 4000000 in
theorem tagName_some (s : ByteArray) (i j0 : Nat) (w : World) (hs : s.size ≤ 1000000) (h : tagN s i = some j0) :
    Calls Tryz.prog 194 #[.string s, .int .i64 i] w fun e w' => e = .returned (.tuple #[.string (s.extract i j0), .int .i64 j0, .bool true]) ∧ w = w' := by
  unfold tagN at h
  by_cases hi : i < s.size
  · rw [dif_pos hi] at h
    cases hl : ltrB s[i] with
    | false => rw [hl] at h; simp at h
    | true =>
      rw [hl] at h
      have h0 : rn ldhB s (i + 1) = j0 := by simpa using h
      have H0 := Lib.hid h0
      have HL := Lib.hid hl
      clear h h0 hl
      have w1 : (i : Int) < s.size := by omega
      have w2 : (0 : Int) ≤ i := by omega
      go_enter Tryz.func194, Tryz.ntmps194
      go_wp2_with fail
      refine (isLetter_any s[i] w).mono ?_
      rintro e w' ⟨rfl, rfl⟩
      rw [HL.out]
      have w3 : IntKind.i64.wrap ((i : Int) + 1) = (i : Int) + 1 := IntWalk.i64_in _ (by omega)
      go_wp2_with fail
      go_loopg [7] (s.size - (i + 1)) (fun k v wr => ∃ j : Nat, v = .int .i64 j ∧ k = s.size - j ∧ i + 1 ≤ j ∧ j ≤ s.size ∧ rn ldhB s j = j0 ∧ w = wr)
      case atStart => exact ⟨i + 1, by simp, rfl, Nat.le_refl _, by omega, H0.out, rfl⟩
      case round =>
        obtain ⟨j, rfl, rfl, hj1, hj, hp, rfl⟩ := hrel
        have HP := Lib.hid hp
        clear hp
        by_cases hlt : j < s.size
        · have v1 : (j : Int) < s.size := by omega
          have v2 : (0 : Int) ≤ j := by omega
          have v3 : IntKind.i64.wrap ((j : Int) + 1) = (j : Int) + 1 := IntWalk.i64_in _ (by omega)
          have v4 : (i : Int) ≤ j := by omega
          have v5 : (j : Int) ≤ s.size := by omega
          go_wp2_with fail
          refine (isLDH_any s[j] w).mono ?_
          rintro e w' ⟨rfl, rfl⟩
          cases hc : ldhB s[j] with
          | true =>
            have HS := Lib.hid (rn_step hlt hc)
            clear hc
            go_wp2_with fail
            go_roundg (s.size - (j + 1))
            case measure => omega
            case rel => exact ⟨j + 1, by simp, rfl, by omega, by omega, by rw [← HS.out, HP.out], rfl⟩
          | false =>
            have hS := rn_stop hlt hc
            rw [HP.out] at hS
            subst hS
            clear hc
            go_wp2_with fail
            go_ret3
            exact ⟨by simp, rfl⟩
        · have hS := rn_end (P := ldhB) (s := s) (i := j) (by omega)
          rw [HP.out] at hS
          subst hS
          have v1 : ¬ (j0 : Int) < s.size := by omega
          have v4 : (i : Int) ≤ j0 := by omega
          have v5 : (j0 : Int) ≤ s.size := by omega
          go_wp2_with fail
          go_ret3
          exact ⟨by simp, rfl⟩
  · rw [dif_neg hi] at h
    cases h
end Go.Proofs.YtdnlfdppjfjncaaGreatDoor


/- Attributes of tags. -/
namespace Go.Proofs.YtdnlfdppjfjncaaGreatDoor
open Go Go.RowKit Go.Proofs

def anB (c : UInt8) : Bool := ldhB c || c == 95 || c == 46 || c == 58
def asB (c : UInt8) : Bool := ltrB c || c == 95 || c == 58
/-- A name of an attribute from place i on: where it ends. -/
def atN (s : ByteArray) (i : Nat) : Option Nat := if h : i + 1 < s.size then (if asB s[i] then some (rn anB s (i + 1)) else none) else none

def NameOut (s : ByteArray) (i : Nat) (o : Option Nat) : Ending := match o with
  | some j => .returned (.tuple #[.string (s.extract i j), .int .i64 j, .bool true])
  | none => .returned (.tuple #[.string ⟨#[]⟩, .int .i64 0, .bool false])

theorem anB_rest {c : UInt8} (h : ldhB c = false) : anB c = (c == 95 || c == 46 || c == 58) := by simp [anB, h]
theorem eq_beq {c : UInt8} {n : Nat} (hn : n < 256) (h : c.toNat = n) : (c == UInt8.ofNat n) = true := by
  have : c = UInt8.ofNat n := UInt8.toNat_inj.1 (by rw [h]; simp; omega)
  rw [this]; simp
theorem ne_beq {c : UInt8} {n : Nat} (hn : n < 256) (h : c.toNat ≠ n) : (c == UInt8.ofNat n) = false := by
  refine beq_eq_false_iff_ne.2 (fun e => h ?_)
  rw [e]; simp; omega
theorem anB_cases (c : UInt8) : (ldhB c = true ∧ anB c = true) ∨ (ldhB c = false ∧ c.toNat = 95 ∧ anB c = true) ∨ (ldhB c = false ∧ c.toNat ≠ 95 ∧ c.toNat = 46 ∧ anB c = true) ∨
    (ldhB c = false ∧ c.toNat ≠ 95 ∧ c.toNat ≠ 46 ∧ c.toNat = 58 ∧ anB c = true) ∨ (ldhB c = false ∧ c.toNat ≠ 95 ∧ c.toNat ≠ 46 ∧ c.toNat ≠ 58 ∧ anB c = false) := by
  cases hl : ldhB c with
  | true => exact Or.inl ⟨rfl, by simp [anB, hl]⟩
  | false =>
    refine Or.inr ?_
    by_cases h1 : c.toNat = 95
    · exact Or.inl ⟨rfl, h1, by rw [anB_rest hl, show (c == 95) = true from eq_beq (n := 95) (by decide) h1]; rfl⟩
    · refine Or.inr ?_
      have e1 : (c == 95) = false := ne_beq (n := 95) (by decide) h1
      by_cases h2 : c.toNat = 46
      · exact Or.inl ⟨rfl, h1, h2, by rw [anB_rest hl, e1, show (c == 46) = true from eq_beq (n := 46) (by decide) h2]; rfl⟩
      · refine Or.inr ?_
        have e2 : (c == 46) = false := ne_beq (n := 46) (by decide) h2
        by_cases h3 : c.toNat = 58
        · exact Or.inl ⟨rfl, h1, h2, h3, by rw [anB_rest hl, e1, e2, show (c == 58) = true from eq_beq (n := 58) (by decide) h3]; rfl⟩
        · exact Or.inr ⟨rfl, h1, h2, h3, by rw [anB_rest hl, e1, e2, show (c == 58) = false from ne_beq (n := 58) (by decide) h3]; rfl⟩
theorem asB_cases (c : UInt8) : (ltrB c = true ∧ asB c = true) ∨ (ltrB c = false ∧ c.toNat = 95 ∧ asB c = true) ∨ (ltrB c = false ∧ c.toNat ≠ 95 ∧ c.toNat = 58 ∧ asB c = true) ∨ (ltrB c = false ∧ c.toNat ≠ 95 ∧ c.toNat ≠ 58 ∧ asB c = false) := by
  cases hl : ltrB c with
  | true => exact Or.inl ⟨rfl, by simp [asB, hl]⟩
  | false =>
    refine Or.inr ?_
    by_cases h1 : c.toNat = 95
    · exact Or.inl ⟨rfl, h1, by simp only [asB, hl, show (c == 95) = true from eq_beq (n := 95) (by decide) h1]; rfl⟩
    · refine Or.inr ?_
      have e1 : (c == 95) = false := ne_beq (n := 95) (by decide) h1
      by_cases h3 : c.toNat = 58
      · exact Or.inl ⟨rfl, h1, h3, by simp only [asB, hl, e1, show (c == 58) = true from eq_beq (n := 58) (by decide) h3]; rfl⟩
      · exact Or.inr ⟨rfl, h1, h3, by simp only [asB, hl, e1, show (c == 58) = false from ne_beq (n := 58) (by decide) h3]; rfl⟩

/-- The loop of a name, from the place behind its first sign on. -/
def NameLoop (s : ByteArray) (i : Nat) (j0 : Nat) : Prop := rn anB s (i + 1) = j0

set_option maxHeartbeats 8000000 in
theorem attrName_some (s : ByteArray) (i j0 : Nat) (w : World) (hs : s.size ≤ 1000000) (h : atN s i = some j0) :
    Calls Tryz.prog 206 #[.string s, .int .i64 i] w fun e w' => e = .returned (.tuple #[.string (s.extract i j0), .int .i64 j0, .bool true]) ∧ w = w' := by
  unfold atN at h
  by_cases hi : i + 1 < s.size
  · rw [dif_pos hi] at h
    have w1 : (i : Int) + 1 < s.size := by omega
    have w1' : (i : Int) < s.size := by omega
    have w2 : (0 : Int) ≤ i := by omega
    have w3 : IntKind.i64.wrap ((i : Int) + 1) = (i : Int) + 1 := IntWalk.i64_in _ (by omega)
    have hloop : ∀ a : Bool, asB s[i] = a → a = true → rn anB s (i + 1) = j0 := fun a h1 h2 => by rw [h1, h2] at h; simpa using h
    have HB := Lib.hid h
    clear h
    go_enter Tryz.func206, Tryz.ntmps206
    go_wp2_with fail
    refine (isLetter_any s[i] w).mono ?_
    rintro e w' ⟨rfl, rfl⟩
    rcases asB_cases s[i] with ⟨l1, l2⟩ | ⟨l1, l2, l3⟩ | ⟨l1, l2, l3, l4⟩ | ⟨l1, l2, l3, l4⟩
    case inr.inr.inr => exact absurd HB.out (by rw [l4]; simp)
    all_goals
      first
        | have H0 := Lib.hid (hloop _ l2 rfl)
        | have H0 := Lib.hid (hloop _ l3 rfl)
        | have H0 := Lib.hid (hloop _ l4 rfl)
      rw [l1]
      first
        | (have d1 : ((s[i].toNat : Int) == 95) = true := d_yes l2)
        | (have d1 : ((s[i].toNat : Int) == 95) = false := d_no l2
           have d2 : ((s[i].toNat : Int) == 58) = true := d_yes l3)
        | skip
      clear l1 l2 hloop
      try clear l3
      try clear l4
      go_wp2_with fail
      go_loopg [7] (s.size - (i + 1)) (fun k v wr => ∃ j : Nat, v = .int .i64 j ∧ k = s.size - j ∧ i + 1 ≤ j ∧ j ≤ s.size ∧ rn anB s j = j0 ∧ w = wr)
      case atStart => exact ⟨i + 1, by simp, rfl, Nat.le_refl _, by omega, H0.out, rfl⟩
      case round =>
        obtain ⟨j, rfl, rfl, hj1, hj, hp, rfl⟩ := hrel
        have HP := Lib.hid hp
        clear hp
        by_cases hlt : j < s.size
        · have v1 : (j : Int) < s.size := by omega
          have v2 : (0 : Int) ≤ j := by omega
          have v3 : IntKind.i64.wrap ((j : Int) + 1) = (j : Int) + 1 := IntWalk.i64_in _ (by omega)
          have v4 : (i : Int) ≤ j := by omega
          have v5 : (j : Int) ≤ s.size := by omega
          go_wp2_with fail
          refine (isLDH_any s[j] w).mono ?_
          rintro e w' ⟨rfl, rfl⟩
          rcases anB_cases s[j] with ⟨a1, a2⟩ | ⟨a1, a2, a3⟩ | ⟨a1, a2, a3, a4⟩ | ⟨a1, a2, a3, a4, a5⟩ | ⟨a1, a2, a3, a4, a5⟩
          · have HS := Lib.hid (rn_step hlt a2)
            rw [a1]
            clear a1 a2
            go_wp2_with fail
            go_roundg (s.size - (j + 1))
            case measure => omega
            case rel => exact ⟨j + 1, by simp, rfl, by omega, by omega, by rw [← HS.out, HP.out], rfl⟩
          · have HS := Lib.hid (rn_step hlt a3)
            have d3 : ((s[j].toNat : Int) == 95) = true := d_yes a2
            rw [a1]
            clear a1 a2 a3
            go_wp2_with fail
            go_roundg (s.size - (j + 1))
            case measure => omega
            case rel => exact ⟨j + 1, by simp, rfl, by omega, by omega, by rw [← HS.out, HP.out], rfl⟩
          · have HS := Lib.hid (rn_step hlt a4)
            have d3 : ((s[j].toNat : Int) == 95) = false := d_no a2
            have d4 : ((s[j].toNat : Int) == 46) = true := d_yes a3
            rw [a1]
            clear a1 a2 a3 a4
            go_wp2_with fail
            go_roundg (s.size - (j + 1))
            case measure => omega
            case rel => exact ⟨j + 1, by simp, rfl, by omega, by omega, by rw [← HS.out, HP.out], rfl⟩
          · have HS := Lib.hid (rn_step hlt a5)
            have d3 : ((s[j].toNat : Int) == 95) = false := d_no a2
            have d4 : ((s[j].toNat : Int) == 46) = false := d_no a3
            have d5 : ((s[j].toNat : Int) == 58) = true := d_yes a4
            rw [a1]
            clear a1 a2 a3 a4 a5
            go_wp2_with fail
            go_roundg (s.size - (j + 1))
            case measure => omega
            case rel => exact ⟨j + 1, by simp, rfl, by omega, by omega, by rw [← HS.out, HP.out], rfl⟩
          · have hS := rn_stop hlt a5
            rw [HP.out] at hS
            subst hS
            have d3 : ((s[j0].toNat : Int) == 95) = false := d_no a2
            have d4 : ((s[j0].toNat : Int) == 46) = false := d_no a3
            have d5 : ((s[j0].toNat : Int) == 58) = false := d_no a4
            rw [a1]
            clear a1 a2 a3 a4 a5
            go_wp2_with fail
            go_ret3
            exact ⟨by simp, rfl⟩
        · have hS := rn_end (P := anB) (s := s) (i := j) (by omega)
          rw [HP.out] at hS
          subst hS
          have v1 : ¬ (j0 : Int) < s.size := by omega
          have v4 : (i : Int) ≤ j0 := by omega
          have v5 : (j0 : Int) ≤ s.size := by omega
          go_wp2_with fail
          go_ret3
          exact ⟨by simp, rfl⟩
  · rw [dif_neg hi] at h
    cases h

set_option maxHeartbeats 4000000 in
theorem attrName_none (s : ByteArray) (i : Nat) (w : World) (hs : s.size ≤ 1000000) (hi9 : i ≤ 1000000) (h : atN s i = none) :
    Calls Tryz.prog 206 #[.string s, .int .i64 i] w fun e w' => e = .returned (.tuple #[.string ⟨#[]⟩, .int .i64 0, .bool false]) ∧ w = w' := by
  unfold atN at h
  have w3 : IntKind.i64.wrap ((i : Int) + 1) = (i : Int) + 1 := IntWalk.i64_in _ (by omega)
  by_cases hi : i + 1 < s.size
  · rw [dif_pos hi] at h
    have w1 : (i : Int) + 1 < s.size := by omega
    have w1' : (i : Int) < s.size := by omega
    have w2 : (0 : Int) ≤ i := by omega
    rcases asB_cases s[i] with ⟨l1, l2⟩ | ⟨l1, l2, l3⟩ | ⟨l1, l2, l3, l4⟩ | ⟨l1, l2, l3, l4⟩
    · rw [l2] at h; simp at h
    · rw [l3] at h; simp at h
    · rw [l4] at h; simp at h
    · have d1 : ((s[i].toNat : Int) == 95) = false := d_no l2
      have d2 : ((s[i].toNat : Int) == 58) = false := d_no l3
      have L1 := Lib.hid l1
      clear h l1 l2 l3 l4
      go_enter Tryz.func206, Tryz.ntmps206
      go_wp2_with fail
      refine (isLetter_any s[i] w).mono ?_
      rintro e w' ⟨rfl, rfl⟩
      rw [L1.out]
      go_wp2_with fail
      go_ret3
      exact ⟨rfl, rfl⟩
  · have w1 : ¬ (i : Int) + 1 < s.size := by omega
    clear h
    go_enter Tryz.func206, Tryz.ntmps206
    go_wp2_with fail
    go_ret3
    exact ⟨rfl, rfl⟩
end Go.Proofs.YtdnlfdppjfjncaaGreatDoor

/- only: a law's own function over an alphabet. -/
namespace Go.Proofs.YtdnlfdppjfjncaaGreatDoor
open Go Go.RowKit Go.Proofs

theorem ixB (s : ByteArray) (c : UInt8) (w : World) : Calls Tryz.prog 36 #[.string s, .int .u8 c.toNat] w fun e w' => e = .returned (.int .i64 (Lib.indexByte s.data.toList c)) ∧ w = w' := by
  refine (Tryz.strings_IndexByte s c.toNat w).mono ?_
  rintro e w' ⟨rfl, rfl⟩
  refine ⟨?_, rfl⟩
  rw [Int.toNat_natCast]
  congr 4
  simp

/-- Every byte from i on is one of the alphabet's. -/
def onF (s A : ByteArray) (i : Nat) : Bool := if h : i < s.size then (!decide (Lib.indexByte A.data.toList s[i] < 0) && onF s A (i + 1)) else true
termination_by s.size - i

theorem onF_get (s A : ByteArray) : ∀ (n i : Nat), s.size - i = n → onF s A i = true → ∀ j (hj : j < s.size), i ≤ j → ¬ Lib.indexByte A.data.toList s[j] < 0
  | 0, i, hn, _, j, hj, hij => by omega
  | n + 1, i, hn, hp, j, hj, hij => by
    have hi : i < s.size := by omega
    rw [onF, dif_pos hi, Bool.and_eq_true] at hp
    by_cases he : i = j
    · subst he
      simpa using hp.1
    · exact onF_get s A n (i + 1) (by omega) hp.2 j hj (by omega)

set_option maxHeartbeats 4000000 in
theorem only_any (s A : ByteArray) (n : Nat) (w : World) (hs : s.size ≤ n) (hn : n ≤ 100000) :
    Calls Tryz.prog 15 #[.string s, .string A, .int .i64 n] w fun e w' => e = .returned (.bool (onF s A 0)) ∧ w = w' := by
  have w0 : ¬ ((n : Int) < s.size) := by omega
  go_enter Tryz.func15, Tryz.ntmps15
  go_wp2_with fail
  go_loopg [7, 14] s.size (fun k u v wr => ∃ i : Nat, (i = 0 → u = undef) ∧ v = .int .i64 i ∧ k = s.size - i ∧ i ≤ s.size ∧ onF s A i = onF s A 0 ∧ w = wr)
  case atStart => exact ⟨0, fun _ => rfl, rfl, rfl, Nat.zero_le _, rfl, rfl⟩
  case round =>
    obtain ⟨i, _, rfl, rfl, hi, hp, rfl⟩ := hrel
    have HP := Lib.hid hp
    clear hp
    by_cases hlt : i < s.size
    · have w1 : (i : Int) < s.size := by omega
      have w2 : (0 : Int) ≤ i := by omega
      have w3 : IntKind.i64.wrap ((i : Int) + 1) = (i : Int) + 1 := IntWalk.i64_in _ (by omega)
      have hun : onF s A i = (!decide (Lib.indexByte A.data.toList s[i] < 0) && onF s A (i + 1)) := by rw [onF, dif_pos hlt]
      have HU := Lib.hid hun
      clear hun
      go_wp2_with fail
      refine (ixB A s[i] w).mono ?_
      rintro e w' ⟨rfl, rfl⟩
      by_cases hc : Lib.indexByte A.data.toList s[i] < 0
      · have hf : onF s A 0 = false := by rw [← HP.out, HU.out]; simp [hc]
        have HF := Lib.hid hf
        clear hf
        go_wp2_with fail
        go_ret
        exact ⟨by rw [HF.out]; rfl, rfl⟩
      · have Hc := Lib.hid hc
        go_wp2_with fail
        go_roundg (s.size - (i + 1))
        case measure => omega
        case rel => exact ⟨i + 1, fun h => absurd h (by omega), by simp, rfl, by omega, by rw [← HP.out, HU.out]; simp [Hc.out], rfl⟩
    · have hin : i = s.size := by omega
      have w1 : ¬ ((i : Int) < s.size) := by omega
      have ht : onF s A 0 = true := by rw [← HP.out, hin, onF, dif_neg (Nat.lt_irrefl _)]
      have HT := Lib.hid ht
      clear ht
      go_wp2_with fail
      go_ret
      exact ⟨by rw [HT.out]; rfl, rfl⟩

set_option maxHeartbeats 4000000 in
theorem only_big (s A : ByteArray) (n : Nat) (w : World) (hs : n < s.size) (_hs2 : s.size ≤ 2147483647) :
    Calls Tryz.prog 15 #[.string s, .string A, .int .i64 n] w fun e w' => e = .returned (.bool false) ∧ w = w' := by
  have w0 : (n : Int) < s.size := by omega
  go_enter Tryz.func15, Tryz.ntmps15
  go_wp2_with fail
  go_ret
  exact ⟨rfl, rfl⟩
end Go.Proofs.YtdnlfdppjfjncaaGreatDoor

/- Values of attributes. -/
namespace Go.Proofs.YtdnlfdppjfjncaaGreatDoor
open Go Go.RowKit Go.Proofs

def uqS : ByteArray := ⟨#[32, 9, 10, 34, 39, 61, 60, 62, 96]⟩
def uqB (c : UInt8) : Bool := decide (Lib.indexByte uqS.data.toList c < 0)

/-- zzContains of the replacement sign: some answer. -/
def SomeBool (w : World) (e : Ending) (w' : World) : Prop := ∃ b : Bool, e = .returned (.bool b) ∧ w = w'
def SomeInt (w : World) (e : Ending) (w' : World) : Prop := ∃ n : Int, e = .returned (.int .i64 n) ∧ w = w'

set_option maxHeartbeats 2000000 in
theorem zzIndex_fffd (s : ByteArray) (w : World) (hs : s.size ≤ 1000000) :
    Calls Tryz.prog 63 #[.string s, .string ⟨#[239, 191, 189]⟩] w (SomeInt w) := by
  go_enter Tryz.func63, Tryz.ntmps63
  go_wp2
  go_loopg [5] (s.size + 1) (fun m v wr => ∃ k : Nat, v = .int .i64 k ∧ m = s.size + 1 - k ∧ k ≤ s.size + 1 ∧ w = wr)
  case atStart => exact ⟨0, rfl, rfl, Nat.zero_le _, rfl⟩
  case round =>
    obtain ⟨k, rfl, rfl, hk, rfl⟩ := hrel
    have w1 : IntKind.i64.wrap ((k : Int) + 1) = (k : Int) + 1 := IntWalk.i64_in _ (by omega)
    have w1' : IntKind.i64.wrap ((k : Int) + 3) = (k : Int) + 3 := IntWalk.i64_in _ (by omega)
    have hz : (⟨#[239, 191, 189]⟩ : ByteArray).size = 3 := rfl
    by_cases hlt : k + 3 ≤ s.size
    · have hle : (k : Int) + 3 ≤ s.size := by omega
      have h0 : (0 : Int) ≤ k := by omega
      have h2 : (k : Int) ≤ k + 3 := by omega
      have h3 : ((k : Int) + 3).toNat = k + 3 := by omega
      cases hc : ((s.extract k (k + 3)).toList == [239, 191, 189]) with
      | true =>
        go_wp2_with fail
        go_ret
        exact ⟨_, rfl, rfl⟩
      | false =>
        go_wp2_with fail
        go_roundg (s.size + 1 - (k + 1))
        case measure => omega
        case rel => exact ⟨k + 1, by simp, rfl, by omega, rfl⟩
    · have hle : ¬ ((k : Int) + 3 ≤ s.size) := by omega
      go_wp2_with fail
      go_ret
      exact ⟨_, rfl, rfl⟩

theorem zzContains_fffd (s : ByteArray) (w : World) (hs : s.size ≤ 1000000) :
    Calls Tryz.prog 60 #[.string s, .string ⟨#[239, 191, 189]⟩] w (SomeBool w) := by
  go_enter Tryz.func60, Tryz.ntmps60
  go_wp2_with fail
  refine (zzIndex_fffd s w hs).mono ?_
  rintro e w' ⟨n, rfl, rfl⟩
  go_wp2
  go_ret
  exact ⟨_, rfl, rfl⟩

/-- A value in quotation marks from place i on: it ends behind place i + 1 + k. -/
structure ValQ (s : ByteArray) (i k : Nat) : Prop where
  lt : i < s.size
  quote : s[i].toNat = 39 ∨ s[i].toNat = 34
  ix : Lib.indexByte (s.extract (i + 1) s.size).data.toList s[i] = (k : Int)
  room : i + 1 + k + 1 ≤ s.size

set_option maxHeartbeats 8000000 in
theorem attrValue_quoted (s : ByteArray) (i k : Nat) (w : World) (hs : s.size ≤ 1000000) (h : ValQ s i k) :
    Calls Tryz.prog 214 #[.string s, .int .i64 i] w fun e w' => e = .returned (.tuple #[.string (s.extract i (i + 1 + k + 1)), .int .i64 ((i + 1 + k + 1 : Nat) : Int), .bool true]) ∧ Same w w' := by
  obtain ⟨hlt, hq, hix, hroom⟩ := h
  have w1 : (i : Int) < s.size := by omega
  have w2 : (0 : Int) ≤ i := by omega
  have w3 : IntKind.i64.wrap ((i : Int) + 1) = (i : Int) + 1 := IntWalk.i64_in _ (by omega)
  have w4 : IntKind.i64.wrap ((i : Int) + 1 + k) = (i : Int) + 1 + k := IntWalk.i64_in _ (by omega)
  have w5 : IntKind.i64.wrap ((i : Int) + 1 + k + 1) = (i : Int) + 1 + k + 1 := IntWalk.i64_in _ (by omega)
  have w6 : ((i : Int) + 1).toNat = i + 1 := by omega
  have w7 : ((i : Int) + 1 + k + 1).toNat = i + 1 + k + 1 := by omega
  have w8 : (0 : Int) ≤ (i : Int) + 1 := by omega
  have w9 : (i : Int) + 1 ≤ s.size := by omega
  have w10 : (i : Int) ≤ (i : Int) + 1 + k + 1 := by omega
  have w11 : (i : Int) + 1 + k + 1 ≤ s.size := by omega
  have w12 : (0 : Int) ≤ k := by omega
  have hcond : ((s[i].toNat : Int) == 39) = true ∨ (((s[i].toNat : Int) == 39) = false ∧ ((s[i].toNat : Int) == 34) = true) := by
    rcases hq with h | h
    · exact Or.inl (d_yes h)
    · exact Or.inr ⟨d_no (n := 39) (by omega), d_yes h⟩
  have HX := Lib.hid hix
  clear hq hix
  have HQ : ∀ W, Calls Tryz.prog 36 #[.string (s.extract (i + 1) s.size), .int .u8 s[i].toNat] W fun e w' => e = .returned (.int .i64 (k : Int)) ∧ w' = W := fun W =>
    (ixB _ _ W).mono (fun e w' ⟨h1, h2⟩ => ⟨by rw [h1, HX.out], h2.symm⟩)
  go_enter Tryz.func214, Tryz.ntmps214
  rcases hcond with d1 | ⟨d1, d2⟩
  all_goals
    go_wp2_with fail
    go_quiet ((go_at_call 36; exact Calls.quiet_of_same (HQ _)))
    go_wp2_with fail
    go_ret3
    exact ⟨by simp, (Mods.refl _ w).drewN _⟩

set_option maxHeartbeats 8000000 in
theorem attrValue_bare (s : ByteArray) (i j0 : Nat) (w : World) (hs : s.size ≤ 1000000) (hi : i < s.size) (h1 : s[i].toNat ≠ 39) (h2 : s[i].toNat ≠ 34) (h : rn uqB s i = j0) (hj : i < j0) :
    Calls Tryz.prog 214 #[.string s, .int .i64 i] w fun e w' => e = .returned (.tuple #[.string (s.extract i j0), .int .i64 j0, .bool true]) ∧ w = w' := by
  have w1 : (i : Int) < s.size := by omega
  have w2 : (0 : Int) ≤ i := by omega
  have d1 : ((s[i].toNat : Int) == 39) = false := d_no h1
  have d2 : ((s[i].toNat : Int) == 34) = false := d_no h2
  have H0 := Lib.hid h
  have hj9 : j0 ≤ s.size := by rw [← h]; exact rn_le (by omega)
  clear h h1 h2
  go_enter Tryz.func214, Tryz.ntmps214
  go_wp2_with fail
  go_loopg [9] (s.size - i) (fun k v wr => ∃ j : Nat, v = .int .i64 j ∧ k = s.size - j ∧ i ≤ j ∧ j ≤ s.size ∧ rn uqB s j = j0 ∧ w = wr)
  case atStart => exact ⟨i, rfl, rfl, Nat.le_refl _, by omega, H0.out, rfl⟩
  case round =>
    obtain ⟨j, rfl, rfl, hj1, hjs, hp, rfl⟩ := hrel
    have HP := Lib.hid hp
    clear hp d1 d2
    by_cases hlt : j < s.size
    · have v1 : (j : Int) < s.size := by omega
      have v2 : (0 : Int) ≤ j := by omega
      have v3 : IntKind.i64.wrap ((j : Int) + 1) = (j : Int) + 1 := IntWalk.i64_in _ (by omega)
      go_wp2_with fail
      refine (ixB uqS s[j] w).mono ?_
      rintro e w' ⟨rfl, rfl⟩
      by_cases hc : Lib.indexByte uqS.data.toList s[j] < 0
      · have HS := Lib.hid (rn_step (P := uqB) hlt (decide_eq_true hc))
        go_wp2_with fail
        go_roundg (s.size - (j + 1))
        case measure => omega
        case rel => exact ⟨j + 1, by simp, rfl, by omega, by omega, by rw [← HS.out, HP.out], rfl⟩
      · have hS := rn_stop (P := uqB) hlt (decide_eq_false hc)
        rw [HP.out] at hS
        subst hS
        have v4 : (i : Int) < j0 := by omega
        have v5 : (i : Int) ≤ j0 := by omega
        have v6 : (j0 : Int) ≤ s.size := by omega
        go_wp2_with fail
        go_ret3
        exact ⟨by simp, rfl⟩
    · have hS := rn_end (P := uqB) (s := s) (i := j) (by omega)
      rw [HP.out] at hS
      subst hS
      have v1 : ¬ (j0 : Int) < s.size := by omega
      have v4 : (i : Int) < j0 := by omega
      have v5 : (i : Int) ≤ j0 := by omega
      have v6 : (j0 : Int) ≤ s.size := by omega
      go_wp2_with fail
      go_ret3
      exact ⟨by simp, rfl⟩

/-- A value from place i on ends at place j. -/
def Val (s : ByteArray) (i j : Nat) : Prop := (∃ k, ValQ s i k ∧ j = i + 1 + k + 1) ∨ (∃ h : i < s.size, s[i].toNat ≠ 39 ∧ s[i].toNat ≠ 34 ∧ rn uqB s i = j ∧ i < j)

theorem Val.le {s : ByteArray} {i j : Nat} (h : Val s i j) : i < j ∧ j ≤ s.size := by
  rcases h with ⟨k, h1, rfl⟩ | ⟨h, _, _, h3, h4⟩
  · have := h1.room
    omega
  · have := rn_le (P := uqB) (s := s) (i := i) (by omega)
    omega

theorem attrValue_some (s : ByteArray) (i j : Nat) (w : World) (hs : s.size ≤ 1000000) (h : Val s i j) :
    Calls Tryz.prog 214 #[.string s, .int .i64 i] w fun e w' => e = .returned (.tuple #[.string (s.extract i j), .int .i64 j, .bool true]) ∧ Same w w' := by
  rcases h with ⟨k, h1, rfl⟩ | ⟨h, h1, h2, h3, h4⟩
  · exact attrValue_quoted s i k w hs h1
  · exact (attrValue_bare s i j w hs h h1 h2 h3 h4).mono (fun e w' ⟨a, b⟩ => ⟨a, b ▸ Mods.refl _ w⟩)
end Go.Proofs.YtdnlfdppjfjncaaGreatDoor

/- An attribute. -/
namespace Go.Proofs.YtdnlfdppjfjncaaGreatDoor
open Go Go.RowKit Go.Proofs

/-- Behind place i there is an equal sign, at place a. -/
structure EqAt (s : ByteArray) (i a : Nat) : Prop where
  at_ : rn spB s i = a
  lt : a + 1 < s.size
  eq : ∀ h : a < s.size, s[a].toNat = 61

def SpecOut (w : World) (bp : Nat) (q : PSt) (v : Value) (e : Ending) (w' : World) : Prop := e = .returned v ∧ Mods (fun k => k = bp) w w' ∧ CornerAt w' bp q

set_option maxHeartbeats 8000000 in
theorem attrSpec_some (bp : Nat) (q : PSt) (s : ByteArray) (i a j : Nat) (w : World) (hs : s.size ≤ 1000000) (hi9 : i ≤ 1000000) (hE : EqAt s i a) (hV : Val s (rn spB s (a + 1)) j) (hp : PsAt w bp q) :
    Calls Tryz.prog 207 #[.pointer (some ⟨bp, 0, none⟩), .string s, .int .i64 i] w (SpecOut w bp q (.tuple #[.string (s.extract (rn spB s (a + 1)) j), .int .i64 j, .bool true])) := by
  obtain ⟨hat, halt, heq⟩ := hE
  have heq := heq (by omega)
  have w1 : (a : Int) + 1 < s.size := by omega
  have w1' : (a : Int) < s.size := by omega
  have w2 : (0 : Int) ≤ a := by omega
  have w3 : IntKind.i64.wrap ((a : Int) + 1) = (a : Int) + 1 := IntWalk.i64_in _ (by omega)
  have d1 : ((s[a].toNat : Int) == 61) = true := d_yes heq
  have d1' : ((s[a].toNat : Int) != 61) = false := by simp [heq]
  have hle := hV.le
  have HA := Lib.hid hat
  have HV := Lib.hid hV
  have hbz := rn_le (P := spB) (s := s) (i := a + 1) (by omega)
  clear hat hV heq
  go_enter Tryz.func207, Tryz.ntmps207
  go_wp2_with fail
  refine (skipSpace_any s i w hs (by omega)).mono ?_
  rintro e w' ⟨rfl, rfl⟩
  rw [HA.out]
  go_wp2_with fail
  refine (skipSpace_any s (a + 1) w hs (by omega)).mono ?_
  rintro e w' ⟨rfl, rfl⟩
  generalize rn spB s (a + 1) = b at *
  have v1 : (0 : Int) ≤ b := by omega
  have v2 : (b : Int) ≤ j := by omega
  have v3 : (j : Int) ≤ s.size := by omega
  go_wp2_with fail
  refine (attrValue_some s b j w hs HV.out).mono ?_
  rintro e w1 ⟨rfl, hm1⟩
  have hp1 := hp.same hm1
  have hc := hp1.corner
  have hf := hp1.fr 6
  have hl := hp1.lt
  have hz : (s.extract b j).size ≤ 1000000 := by rw [ByteArray.size_extract]; omega
  have hset : ∀ c, Mods (fun k => k = bp) w (w1.setCell ⟨bp, 6, none⟩ (.bool c)) ∧ CornerAt (w1.setCell ⟨bp, 6, none⟩ (.bool c)) bp q := fun c =>
    ⟨(hm1.mono (fun _ _ h => h.elim)).trans ((Mods.refl (fun k => k = bp) w1).setCell (p := ⟨bp, 6, none⟩) (fun _ => rfl) _), c, hp1.set 6 _ { q with corner := c } rfl (by decide)⟩
  have HSET := Lib.hid hset
  clear hset HV hp hp1 hm1
  cases hqc : q.corner with
  | true =>
    rw [hqc] at hc
    clear hqc
    go_wp2_with fail
    go_ret3
    exact ⟨by simp, HSET.out _⟩
  | false =>
    rw [hqc] at hc
    clear hqc
    go_wp2_with fail
    refine (zzContains_fffd (s.extract b j) w1 hz).mono ?_
    rintro e w' ⟨bb, rfl, rfl⟩
    go_wp2_with fail
    go_ret3
    exact ⟨by simp, HSET.out _⟩

set_option maxHeartbeats 8000000 in
theorem attrSpec_none (bp : Nat) (s : ByteArray) (i a : Nat) (w : World) (hs : s.size ≤ 1000000) (hi9 : i ≤ 1000000) (hat : rn spB s i = a) (h : s.size ≤ a + 1 ∨ ∃ h : a < s.size, s[a].toNat ≠ 61) :
    Calls Tryz.prog 207 #[.pointer (some ⟨bp, 0, none⟩), .string s, .int .i64 i] w fun e w' => e = .returned (.tuple #[.string ⟨#[]⟩, .int .i64 0, .bool false]) ∧ w = w' := by
  have ha9 : a ≤ 2000000 := by
    have h1 : i ≤ s.size ∨ s.size < i := by omega
    rcases h1 with h1 | h1
    · have := rn_le (P := spB) h1
      omega
    · rw [rn_end (by omega)] at hat
      omega
  have w3 : IntKind.i64.wrap ((a : Int) + 1) = (a : Int) + 1 := IntWalk.i64_in _ (by omega)
  have HA := Lib.hid hat
  clear hat
  by_cases hlt : a + 1 < s.size
  · have w1 : (a : Int) + 1 < s.size := by omega
    have w1' : (a : Int) < s.size := by omega
    have w2 : (0 : Int) ≤ a := by omega
    have hne : s[a].toNat ≠ 61 := by
      rcases h with h | ⟨_, h⟩
      · omega
      · exact h
    have d1 : ((s[a].toNat : Int) == 61) = false := d_no hne
    have d1' : ((s[a].toNat : Int) != 61) = true := by simp; omega
    clear h hne
    go_enter Tryz.func207, Tryz.ntmps207
    go_wp2_with fail
    refine (skipSpace_any s i w hs (by omega)).mono ?_
    rintro e w' ⟨rfl, rfl⟩
    rw [HA.out]
    go_wp2_with fail
    go_ret3
    exact ⟨rfl, rfl⟩
  · have w1 : ¬ (a : Int) + 1 < s.size := by omega
    clear h
    go_enter Tryz.func207, Tryz.ntmps207
    go_wp2_with fail
    refine (skipSpace_any s i w hs (by omega)).mono ?_
    rintro e w' ⟨rfl, rfl⟩
    rw [HA.out]
    go_wp2_with fail
    go_ret3
    exact ⟨rfl, rfl⟩

/-- An attribute from place i on ends at place k. -/
structure Attr (s : ByteArray) (i k : Nat) : Prop where
  ex : ∃ a, atN s (rn spB s i) = some a ∧ ((∃ b, EqAt s a b ∧ Val s (rn spB s (b + 1)) k) ∨ (k = a ∧ (s.size ≤ rn spB s a + 1 ∨ ∃ h : rn spB s a < s.size, s[rn spB s a].toNat ≠ 61)))

theorem atN_le {s : ByteArray} {i j : Nat} (h : atN s i = some j) : i < j ∧ j ≤ s.size := by
  unfold atN at h
  split at h
  · rename_i hi
    split at h
    · have h0 : rn anB s (i + 1) = j := by simpa using h
      have h1 := rn_ge (P := anB) (s := s) (i := i + 1)
      have h2 := rn_le (P := anB) (s := s) (i := i + 1) (by omega)
      omega
    · cases h
  · cases h

set_option maxHeartbeats 8000000 in
theorem attr_some (bp : Nat) (q : PSt) (s : ByteArray) (i k : Nat) (w : World) (hs : s.size ≤ 1000000) (hi9 : i ≤ s.size) (hA : Attr s i k) (hp : PsAt w bp q) :
    Calls Tryz.prog 195 #[.pointer (some ⟨bp, 0, none⟩), .string s, .int .i64 i] w (SpecOut w bp q (.tuple #[.string (s.extract (rn spB s i) k), .int .i64 k, .bool true])) := by
  obtain ⟨a, h1, h2⟩ := hA.ex
  have hle := atN_le h1
  have hb := rn_le (P := spB) hi9
  have H1 := Lib.hid h1
  clear h1 hA
  go_enter Tryz.func195, Tryz.ntmps195
  go_wp2_with fail
  refine (skipSpace_any s i w hs (by omega)).mono ?_
  rintro e w' ⟨rfl, rfl⟩
  generalize rn spB s i = i1 at *
  go_wp2_with fail
  refine (attrName_some s i1 a w hs H1.out).mono ?_
  rintro e w' ⟨rfl, rfl⟩
  have v0 : (0 : Int) ≤ i1 := by omega
  have v1 : (i1 : Int) ≤ a := by omega
  have v2 : (a : Int) ≤ s.size := by omega
  go_wp2_with fail
  rcases h2 with ⟨b, e1, e2⟩ | ⟨rfl, e1⟩
  · have hbz := rn_ge (P := spB) (s := s) (i := a)
    have hbz2 := rn_ge (P := spB) (s := s) (i := b + 1)
    have hle2 := e2.le
    have hab : a ≤ b := by rw [← e1.at_]; exact hbz
    refine (attrSpec_some bp q s a b k w hs (by omega) e1 e2 hp).mono ?_
    rintro e w1 ⟨rfl, hm, hc⟩
    have v3 : (i1 : Int) ≤ k := by omega
    have v4 : (k : Int) ≤ s.size := by omega
    clear e1 e2
    go_wp2_with fail
    go_ret3
    exact ⟨by simp, hm, hc⟩
  · refine (attrSpec_none bp s k (rn spB s k) w hs (by omega) rfl e1).mono ?_
    rintro e w' ⟨rfl, rfl⟩
    clear e1
    go_wp2_with fail
    go_ret3
    exact ⟨by simp, Mods.refl _ _, q.corner, hp⟩

set_option maxHeartbeats 8000000 in
theorem attr_none (bp : Nat) (s : ByteArray) (i : Nat) (w : World) (hs : s.size ≤ 1000000) (hi9 : i ≤ s.size) (h : atN s (rn spB s i) = none) :
    Calls Tryz.prog 195 #[.pointer (some ⟨bp, 0, none⟩), .string s, .int .i64 i] w fun e w' => e = .returned (.tuple #[.string ⟨#[]⟩, .int .i64 0, .bool false]) ∧ w = w' := by
  have hb := rn_le (P := spB) hi9
  go_enter Tryz.func195, Tryz.ntmps195
  go_wp2_with fail
  refine (skipSpace_any s i w hs (by omega)).mono ?_
  rintro e w' ⟨rfl, rfl⟩
  go_wp2_with fail
  refine (attrName_none s _ w hs (by omega) h).mono ?_
  rintro e w' ⟨rfl, rfl⟩
  go_wp2_with fail
  go_ret3
  exact ⟨rfl, rfl⟩
end Go.Proofs.YtdnlfdppjfjncaaGreatDoor
