/- Some texts of one proof, put into one file: Auto2, Ltr0, Tag1, Lk1, Lk2, Img1. -/
import Derived.Test.YtmmopoofheblbaaGreatDoorIm3
import Derived.Test.YtmmopoofheblbaaGreatDoorIm15
/- A tag that is none: `<scheme:`. -/
namespace Go.Proofs.YtmmopoofheblbaaGreatDoor
open Go Go.RowKit Go.Proofs

/-- An ASCII letter. -/
def Ltr (c : UInt8) : Prop := (65 ≤ c.toNat ∧ c.toNat ≤ 90) ∨ (97 ≤ c.toNat ∧ c.toNat ≤ 122)

theorem isLetter_yes (c : UInt8) (h : Ltr c) (w : World) : Calls Tryz.prog 184 #[.int .u8 c.toNat] w fun e w' => e = .returned (.bool true) ∧ w = w' := by
  rcases h with h | h
  · have w1 : (65 : Int) ≤ c.toNat := by omega
    have w2 : (c.toNat : Int) ≤ 90 := by omega
    clear h
    go_enter Tryz.func184, Tryz.ntmps184
    go_wp2_with fail
    go_ret
    exact ⟨rfl, rfl⟩
  · have w1 : (65 : Int) ≤ c.toNat := by omega
    have w2 : ¬ (c.toNat : Int) ≤ 90 := by omega
    have w3 : (97 : Int) ≤ c.toNat := by omega
    have w4 : (c.toNat : Int) ≤ 122 := by omega
    clear h
    go_enter Tryz.func184, Tryz.ntmps184
    go_wp2_with fail
    go_ret
    exact ⟨rfl, rfl⟩

theorem isLD_yes (c : UInt8) (h : Ltr c) (w : World) : Calls Tryz.prog 219 #[.int .u8 c.toNat] w fun e w' => e = .returned (.bool true) ∧ w = w' := by
  rcases h with h | h
  · have w1 : (65 : Int) ≤ c.toNat := by omega
    have w2 : (c.toNat : Int) ≤ 90 := by omega
    clear h
    go_enter Tryz.func219, Tryz.ntmps219
    go_wp2_with fail
    go_ret
    exact ⟨rfl, rfl⟩
  · have w1 : (65 : Int) ≤ c.toNat := by omega
    have w2 : ¬ (c.toNat : Int) ≤ 90 := by omega
    have w3 : (97 : Int) ≤ c.toNat := by omega
    have w4 : (c.toNat : Int) ≤ 122 := by omega
    clear h
    go_enter Tryz.func219, Tryz.ntmps219
    go_wp2_with fail
    go_ret
    exact ⟨rfl, rfl⟩
theorem isLD_colon (w : World) : Calls Tryz.prog 219 #[.int .u8 58] w fun e w' => e = .returned (.bool false) ∧ w = w' := by
  go_enter Tryz.func219, Tryz.ntmps219
  go_wp2_with fail
  go_ret
  exact ⟨rfl, rfl⟩

theorem isLDH_yes (c : UInt8) (h : Ltr c) (w : World) : Calls Tryz.prog 237 #[.int .u8 c.toNat] w fun e w' => e = .returned (.bool true) ∧ w = w' := by
  go_enter Tryz.func237, Tryz.ntmps237
  go_wp2_with fail
  refine (isLD_yes c h w).mono ?_
  rintro e w' ⟨rfl, rfl⟩
  go_wp2_with fail
  go_ret
  exact ⟨rfl, rfl⟩
theorem isLDH_colon (w : World) : Calls Tryz.prog 237 #[.int .u8 58] w fun e w' => e = .returned (.bool false) ∧ w = w' := by
  go_enter Tryz.func237, Tryz.ntmps237
  go_wp2_with fail
  refine (isLD_colon w).mono ?_
  rintro e w' ⟨rfl, rfl⟩
  go_wp2_with fail
  go_ret
  exact ⟨rfl, rfl⟩
theorem isScheme_yes (c : UInt8) (h : Ltr c) (w : World) : Calls Tryz.prog 185 #[.int .u8 c.toNat] w fun e w' => e = .returned (.bool true) ∧ w = w' := by
  go_enter Tryz.func185, Tryz.ntmps185
  go_wp2_with fail
  refine (isLD_yes c h w).mono ?_
  rintro e w' ⟨rfl, rfl⟩
  go_wp2_with fail
  go_ret
  exact ⟨rfl, rfl⟩
theorem isScheme_colon (w : World) : Calls Tryz.prog 185 #[.int .u8 58] w fun e w' => e = .returned (.bool false) ∧ w = w' := by
  go_enter Tryz.func185, Tryz.ntmps185
  go_wp2_with fail
  refine (isLD_colon w).mono ?_
  rintro e w' ⟨rfl, rfl⟩
  go_wp2_with fail
  go_ret
  exact ⟨rfl, rfl⟩

/-- A text that begins with `<`, letters up to place m, and a colon. -/
structure Sch (s : ByteArray) (m : Nat) : Prop where
  m1 : 1 < m
  lt : m < s.size
  small : s.size ≤ 1000000
  open_ : ∀ h : 0 < s.size, s[0] = 60
  ltr : ∀ j (h : j < s.size), 1 ≤ j → j < m → Ltr s[j]
  colon : ∀ h : m < s.size, s[m] = 58

set_option maxHeartbeats 4000000 in
theorem tagName_sch (s : ByteArray) (m : Nat) (w : World) (hS : Sch s m) :
    Calls Tryz.prog 238 #[.string s, .int .i64 1] w fun e w' => e = .returned (.tuple #[.string (s.extract 1 m), .int .i64 m, .bool true]) ∧ w = w' := by
  have h1 := hS.m1
  have h2 := hS.lt
  have h3 := hS.small
  have w1 : (1 : Int) < s.size := by omega
  have HS := Lib.hid hS
  have hl1 := hS.ltr 1 (by omega) (by omega) h1
  clear hS
  go_enter Tryz.func238, Tryz.ntmps238
  go_wp2_with fail
  refine (isLetter_yes _ hl1 w).mono ?_
  rintro e w' ⟨rfl, rfl⟩
  clear hl1
  go_wp2_with fail
  go_loopg [7] (m - 2) (fun k v wr => ∃ j : Nat, v = .int .i64 j ∧ k = m - j ∧ 2 ≤ j ∧ j ≤ m ∧ w = wr)
  case atStart => exact ⟨2, rfl, by omega, by omega, by omega, rfl⟩
  case round =>
    obtain ⟨j, rfl, hk, hj2, hj, rfl⟩ := hrel
    have HK := Lib.hid hk
    clear hk
    have v1 : (j : Int) < s.size := by omega
    have v2 : (0 : Int) ≤ j := by omega
    have w3 : IntKind.i64.wrap ((j : Int) + 1) = (j : Int) + 1 := IntWalk.i64_in _ (by omega)
    by_cases hlt : j < m
    · have hl := HS.out.ltr j (by omega) (by omega) hlt
      go_wp2_with fail
      refine (isLDH_yes _ hl w).mono ?_
      rintro e w' ⟨rfl, rfl⟩
      clear hl
      go_wp2_with fail
      go_roundg (m - (j + 1))
      case measure => have := HK.out; omega
      case rel => exact ⟨j + 1, by simp, rfl, by omega, by omega, rfl⟩
    · have hjm : j = m := by omega
      subst hjm
      have hc := HS.out.colon h2
      have v3 : (1 : Int) ≤ j := by omega
      have v4 : (j : Int) ≤ s.size := by omega
      go_wp2_with fail
      refine (isLDH_colon w).mono ?_
      rintro e w' ⟨rfl, rfl⟩
      clear hc
      go_wp2_with fail
      go_ret3
      exact ⟨by simp, rfl⟩

set_option maxHeartbeats 4000000 in
theorem closingTag_no (p : Value) (s : ByteArray) (m : Nat) (w : World) (hS : Sch s m) :
    Calls Tryz.prog 190 #[p, .string s, .int .i64 0] w fun e w' => e = .returned (.tuple #[.nilIface, .int .i64 0, .bool false]) ∧ w = w' := by
  have h1 := hS.m1
  have h2 := hS.lt
  have h3 := hS.small
  have w1 : ¬ ((s.size : Int) ≤ 2) := by omega
  have w2 : (0 : Int) < s.size := by omega
  have w3 : (1 : Int) < s.size := by omega
  have d0 : ((s[0].toNat : Int) != 60) = false := by rw [hS.open_ (by omega)]; rfl
  have hl := hS.ltr 1 (by omega) (by omega) h1
  have d1 : ((s[1].toNat : Int) != 47) = true := bne_iff_ne.2 (by rcases hl with h | h <;> omega)
  clear hS hl
  go_enter Tryz.func190, Tryz.ntmps190
  go_wp2_with fail
  go_ret3
  exact ⟨rfl, rfl⟩

/-- Is the text one of four tags? -/
def isPre (n : ByteArray) : Bool := n == ⟨#[112, 114, 101]⟩ || n == ⟨#[115, 99, 114, 105, 112, 116]⟩ || n == ⟨#[115, 116, 121, 108, 101]⟩ || n == ⟨#[116, 101, 120, 116, 97, 114, 101, 97]⟩

/-- The parse state, but for its corner. -/
def CornerAt (w : World) (bp : Nat) (q : PSt) : Prop := ∃ c, PsAt w bp { q with corner := c }

set_option maxHeartbeats 4000000 in
theorem openTag_no (bp : Nat) (q : PSt) (s : ByteArray) (m : Nat) (w : World) (hS : Sch s m) (hp : PsAt w bp q) :
    Calls Tryz.prog 189 #[.pointer (some ⟨bp, 0, none⟩), .string s, .int .i64 0] w fun e w' => e = .returned (.tuple #[.nilIface, .int .i64 0, .bool false]) ∧ Mods (fun k => k = bp) w w' ∧ CornerAt w' bp q := by
  have h1 := hS.m1
  have h2 := hS.lt
  have h3 := hS.small
  have w1 : ¬ ((s.size : Int) ≤ 0) := by omega
  have w1' : ¬ s = ByteArray.empty := by
    intro e
    rw [e] at h2
    exact Nat.not_lt_zero _ h2
  have w2 : (0 : Int) < s.size := by omega
  have d0 : ((s[0].toNat : Int) != 60) = false := by rw [hS.open_ (by omega)]; rfl
  have hc := hS.colon h2
  have f6 := hp.fr 6
  have k6 := hp.corner
  have hbl := hp.lt
  have hcase : ((s.extract 1 m).toList == [112, 114, 101]) = true ∨ (((s.extract 1 m).toList == [112, 114, 101]) = false ∧ ((s.extract 1 m).toList == [115, 99, 114, 105, 112, 116]) = true) ∨
      (((s.extract 1 m).toList == [112, 114, 101]) = false ∧ ((s.extract 1 m).toList == [115, 99, 114, 105, 112, 116]) = false ∧ ((s.extract 1 m).toList == [115, 116, 121, 108, 101]) = true) ∨
      (((s.extract 1 m).toList == [112, 114, 101]) = false ∧ ((s.extract 1 m).toList == [115, 99, 114, 105, 112, 116]) = false ∧ ((s.extract 1 m).toList == [115, 116, 121, 108, 101]) = false ∧ ((s.extract 1 m).toList == [116, 101, 120, 116, 97, 114, 101, 97]) = true) ∨
      (((s.extract 1 m).toList == [112, 114, 101]) = false ∧ ((s.extract 1 m).toList == [115, 99, 114, 105, 112, 116]) = false ∧ ((s.extract 1 m).toList == [115, 116, 121, 108, 101]) = false ∧ ((s.extract 1 m).toList == [116, 101, 120, 116, 97, 114, 101, 97]) = false) := by
    cases ((s.extract 1 m).toList == [112, 114, 101]) <;> cases ((s.extract 1 m).toList == [115, 99, 114, 105, 112, 116]) <;> cases ((s.extract 1 m).toList == [115, 116, 121, 108, 101]) <;> cases ((s.extract 1 m).toList == [116, 101, 120, 116, 97, 114, 101, 97]) <;> simp
  go_enter Tryz.func189, Tryz.ntmps189
  go_wp2_with fail
  refine (tagName_sch s m w hS).mono ?_
  rintro e w' ⟨rfl, rfl⟩
  clear hS d0
  generalize s.extract 1 m = n at *
  rcases hcase with q1 | ⟨q1, q2⟩ | ⟨q1, q2, q3⟩ | ⟨q1, q2, q3, q4⟩ | ⟨q1, q2, q3, q4⟩
  all_goals
    go_wp2_with fail
    go_loopg [10] 0 (fun _ v wr => v = .int .i64 m ∧ Mods (fun k => k = bp) w wr ∧ CornerAt wr bp q)
    case atStart =>
      first
        | exact ⟨rfl, Mods.refl _ _, q.corner, hp⟩
        | exact ⟨rfl, (Mods.refl (fun k => k = bp) w).setCell (p := ⟨bp, 6, none⟩) (fun _ => rfl) _, true, hp.set 6 _ { q with corner := true } rfl (by decide)⟩
    case round =>
      obtain ⟨rfl, hR⟩ := hrel
      have HR := Lib.hid hR
      clear hR f6 k6 hbl
      have v1 : (m : Int) < s.size := by omega
      have v2 : ¬ ((s.size : Int) ≤ m) := by omega
      have v3 : (0 : Int) ≤ m := by omega
      go_wp2_with fail
      go_ret3
      exact ⟨rfl, HR.out⟩
end Go.Proofs.YtmmopoofheblbaaGreatDoor

/- Letters and digits. -/
namespace Go.Proofs.YtmmopoofheblbaaGreatDoor
open Go Go.RowKit Go.Proofs

def ltrB (c : UInt8) : Bool := (97 ≤ c.toNat && c.toNat ≤ 122) || (65 ≤ c.toNat && c.toNat ≤ 90)
def digB (c : UInt8) : Bool := 48 ≤ c.toNat && c.toNat ≤ 57
end Go.Proofs.YtmmopoofheblbaaGreatDoor

/- Letters, digits, blanks; runs of signs: skipSpace, parseTagName. -/
namespace Go.Proofs.YtmmopoofheblbaaGreatDoor
open Go Go.RowKit Go.Proofs

def ldB (c : UInt8) : Bool := ltrB c || digB c
def ldhB (c : UInt8) : Bool := ldB c || c == 45
def spB (c : UInt8) : Bool := c == 32 || c == 9 || c == 10
/-- Where a run of such signs ends that begins at place i. -/
def rn (P : UInt8 → Bool) (s : ByteArray) (i : Nat) : Nat := i + ((s.data.toList.drop i).takeWhile P).length

theorem drop_at (s : ByteArray) (i : Nat) (h : i < s.size) : s.data.toList.drop i = s[i] :: s.data.toList.drop (i + 1) := by
  have h' : i < s.data.toList.length := h
  rw [List.drop_eq_getElem_cons h']
  rfl
theorem rn_step {P : UInt8 → Bool} {s : ByteArray} {i : Nat} (h : i < s.size) (hp : P s[i] = true) : rn P s i = rn P s (i + 1) := by
  unfold rn
  rw [drop_at s i h, List.takeWhile_cons_of_pos hp, List.length_cons]
  omega
theorem rn_stop {P : UInt8 → Bool} {s : ByteArray} {i : Nat} (h : i < s.size) (hp : P s[i] = false) : rn P s i = i := by
  unfold rn
  rw [drop_at s i h, List.takeWhile_cons_of_neg (by rw [hp]; exact Bool.false_ne_true), List.length_nil]
  omega
theorem rn_end {P : UInt8 → Bool} {s : ByteArray} {i : Nat} (h : s.size ≤ i) : rn P s i = i := by
  unfold rn
  rw [List.drop_eq_nil_of_le (show s.data.toList.length ≤ i from h)]
  rfl
theorem rn_ge {P : UInt8 → Bool} {s : ByteArray} {i : Nat} : i ≤ rn P s i := Nat.le_add_right _ _
theorem rn_le {P : UInt8 → Bool} {s : ByteArray} {i : Nat} (h : i ≤ s.size) : rn P s i ≤ s.size := by
  unfold rn
  have h1 := (List.takeWhile_prefix (p := P) (l := s.data.toList.drop i)).length_le
  rw [List.length_drop] at h1
  have e : s.data.toList.length = s.size := rfl
  omega

set_option maxHeartbeats 2000000 in
theorem isLetter_any (c : UInt8) (w : World) : Calls Tryz.prog 184 #[.int .u8 c.toNat] w fun e w' => e = .returned (.bool (ltrB c)) ∧ w = w' := by
  have hcases : c.toNat < 65 ∨ (65 ≤ c.toNat ∧ c.toNat ≤ 90) ∨ (90 < c.toNat ∧ c.toNat < 97) ∨ (97 ≤ c.toNat ∧ c.toNat ≤ 122) ∨ 122 < c.toNat := by omega
  rcases hcases with h | h | h | h | h
  · have HL : Hid (ltrB c = false) := by show ltrB c = false; simp [ltrB]; omega
    have w0 : ¬ ((65 : Int) ≤ c.toNat) := by omega
    have w1 : ¬ ((97 : Int) ≤ c.toNat) := by omega
    clear h
    go_enter Tryz.func184, Tryz.ntmps184
    go_wp2_with fail
    go_ret
    exact ⟨by rw [HL.out]; rfl, rfl⟩
  · have HL : Hid (ltrB c = true) := by show ltrB c = true; simp [ltrB]; omega
    have w0 : (65 : Int) ≤ c.toNat := by omega
    have w1 : (c.toNat : Int) ≤ 90 := by omega
    clear h
    go_enter Tryz.func184, Tryz.ntmps184
    go_wp2_with fail
    go_ret
    exact ⟨by rw [HL.out]; rfl, rfl⟩
  · have HL : Hid (ltrB c = false) := by show ltrB c = false; simp [ltrB]; omega
    have w0 : (65 : Int) ≤ c.toNat := by omega
    have w1 : ¬ ((c.toNat : Int) ≤ 90) := by omega
    have w2 : ¬ ((97 : Int) ≤ c.toNat) := by omega
    clear h
    go_enter Tryz.func184, Tryz.ntmps184
    go_wp2_with fail
    go_ret
    exact ⟨by rw [HL.out]; rfl, rfl⟩
  · have HL : Hid (ltrB c = true) := by show ltrB c = true; simp [ltrB]; omega
    have w0 : (65 : Int) ≤ c.toNat := by omega
    have w1 : ¬ ((c.toNat : Int) ≤ 90) := by omega
    have w2 : (97 : Int) ≤ c.toNat := by omega
    have w3 : (c.toNat : Int) ≤ 122 := by omega
    clear h
    go_enter Tryz.func184, Tryz.ntmps184
    go_wp2_with fail
    go_ret
    exact ⟨by rw [HL.out]; rfl, rfl⟩
  · have HL : Hid (ltrB c = false) := by show ltrB c = false; simp [ltrB]; omega
    have w0 : (65 : Int) ≤ c.toNat := by omega
    have w1 : ¬ ((c.toNat : Int) ≤ 90) := by omega
    have w2 : (97 : Int) ≤ c.toNat := by omega
    have w3 : ¬ ((c.toNat : Int) ≤ 122) := by omega
    clear h
    go_enter Tryz.func184, Tryz.ntmps184
    go_wp2_with fail
    go_ret
    exact ⟨by rw [HL.out]; rfl, rfl⟩

set_option maxHeartbeats 2000000 in
theorem isLD_any (c : UInt8) (w : World) : Calls Tryz.prog 219 #[.int .u8 c.toNat] w fun e w' => e = .returned (.bool (ldB c)) ∧ w = w' := by
  have hcases : c.toNat < 48 ∨ (48 ≤ c.toNat ∧ c.toNat ≤ 57) ∨ (57 < c.toNat ∧ c.toNat < 65) ∨ (65 ≤ c.toNat ∧ c.toNat ≤ 90) ∨ (90 < c.toNat ∧ c.toNat < 97) ∨ (97 ≤ c.toNat ∧ c.toNat ≤ 122) ∨ 122 < c.toNat := by omega
  rcases hcases with h | h | h | h | h | h | h
  · have HL : Hid (ldB c = false) := by show ldB c = false; simp [ltrB, digB, ldB]; omega
    have w0 : ¬ ((65 : Int) ≤ c.toNat) := by omega
    have w1 : ¬ ((97 : Int) ≤ c.toNat) := by omega
    have w2 : ¬ ((48 : Int) ≤ c.toNat) := by omega
    clear h
    go_enter Tryz.func219, Tryz.ntmps219
    go_wp2_with fail
    go_ret
    exact ⟨by rw [HL.out]; rfl, rfl⟩
  · have HL : Hid (ldB c = true) := by show ldB c = true; simp [ltrB, digB, ldB]; omega
    have w0 : ¬ ((65 : Int) ≤ c.toNat) := by omega
    have w1 : ¬ ((97 : Int) ≤ c.toNat) := by omega
    have w2 : (48 : Int) ≤ c.toNat := by omega
    have w3 : (c.toNat : Int) ≤ 57 := by omega
    clear h
    go_enter Tryz.func219, Tryz.ntmps219
    go_wp2_with fail
    go_ret
    exact ⟨by rw [HL.out]; rfl, rfl⟩
  · have HL : Hid (ldB c = false) := by show ldB c = false; simp [ltrB, digB, ldB]; omega
    have w0 : ¬ ((65 : Int) ≤ c.toNat) := by omega
    have w1 : ¬ ((97 : Int) ≤ c.toNat) := by omega
    have w2 : (48 : Int) ≤ c.toNat := by omega
    have w3 : ¬ ((c.toNat : Int) ≤ 57) := by omega
    clear h
    go_enter Tryz.func219, Tryz.ntmps219
    go_wp2_with fail
    go_ret
    exact ⟨by rw [HL.out]; rfl, rfl⟩
  · have HL : Hid (ldB c = true) := by show ldB c = true; simp [ltrB, digB, ldB]; omega
    have w0 : (65 : Int) ≤ c.toNat := by omega
    have w1 : (c.toNat : Int) ≤ 90 := by omega
    clear h
    go_enter Tryz.func219, Tryz.ntmps219
    go_wp2_with fail
    go_ret
    exact ⟨by rw [HL.out]; rfl, rfl⟩
  · have HL : Hid (ldB c = false) := by show ldB c = false; simp [ltrB, digB, ldB]; omega
    have w0 : (65 : Int) ≤ c.toNat := by omega
    have w1 : ¬ ((c.toNat : Int) ≤ 90) := by omega
    have w2 : ¬ ((97 : Int) ≤ c.toNat) := by omega
    have w3 : (48 : Int) ≤ c.toNat := by omega
    have w4 : ¬ ((c.toNat : Int) ≤ 57) := by omega
    clear h
    go_enter Tryz.func219, Tryz.ntmps219
    go_wp2_with fail
    go_ret
    exact ⟨by rw [HL.out]; rfl, rfl⟩
  · have HL : Hid (ldB c = true) := by show ldB c = true; simp [ltrB, digB, ldB]; omega
    have w0 : (65 : Int) ≤ c.toNat := by omega
    have w1 : ¬ ((c.toNat : Int) ≤ 90) := by omega
    have w2 : (97 : Int) ≤ c.toNat := by omega
    have w3 : (c.toNat : Int) ≤ 122 := by omega
    clear h
    go_enter Tryz.func219, Tryz.ntmps219
    go_wp2_with fail
    go_ret
    exact ⟨by rw [HL.out]; rfl, rfl⟩
  · have HL : Hid (ldB c = false) := by show ldB c = false; simp [ltrB, digB, ldB]; omega
    have w0 : (65 : Int) ≤ c.toNat := by omega
    have w1 : ¬ ((c.toNat : Int) ≤ 90) := by omega
    have w2 : (97 : Int) ≤ c.toNat := by omega
    have w3 : ¬ ((c.toNat : Int) ≤ 122) := by omega
    have w4 : (48 : Int) ≤ c.toNat := by omega
    have w5 : ¬ ((c.toNat : Int) ≤ 57) := by omega
    clear h
    go_enter Tryz.func219, Tryz.ntmps219
    go_wp2_with fail
    go_ret
    exact ⟨by rw [HL.out]; rfl, rfl⟩

theorem isLDH_any (c : UInt8) (w : World) : Calls Tryz.prog 237 #[.int .u8 c.toNat] w fun e w' => e = .returned (.bool (ldhB c)) ∧ w = w' := by
  have HB : Hid (ldhB c = (ldB c || c == 45)) := rfl
  have HE : Hid (((c.toNat : Int) == 45) = (c == 45)) := by
    show ((c.toNat : Int) == 45) = (c == 45)
    by_cases h : c = 45
    · subst h; rfl
    · rw [beq_eq_false_iff_ne.2 h]
      exact beq_eq_false_iff_ne.2 (fun he => h (UInt8.toNat_inj.1 (by show _ = 45; omega)))
  go_enter Tryz.func237, Tryz.ntmps237
  go_wp2_with fail
  refine (isLD_any c w).mono ?_
  rintro e w' ⟨rfl, rfl⟩
  cases hl : ldB c with
  | true =>
    have HL := Lib.hid hl
    clear hl
    go_wp2_with fail
    go_ret
    exact ⟨by rw [HB.out, HL.out]; rfl, rfl⟩
  | false =>
    have HL := Lib.hid hl
    clear hl
    go_wp2_with fail
    go_ret
    exact ⟨by rw [HB.out, HL.out, Bool.false_or, ← HE.out]; rfl, rfl⟩

theorem d_yes {c : UInt8} {n : Nat} (h : c.toNat = n) : ((c.toNat : Int) == (n : Int)) = true := by rw [h]; simp
theorem d_no {c : UInt8} {n : Nat} (h : c.toNat ≠ n) : ((c.toNat : Int) == (n : Int)) = false := beq_eq_false_iff_ne.2 (fun he => h (by omega))
theorem spB_yes {c : UInt8} (h : c.toNat = 32 ∨ c.toNat = 9 ∨ c.toNat = 10) : spB c = true := by
  rcases h with h | h | h
  · have : c = 32 := UInt8.toNat_inj.1 h
    subst this; rfl
  · have : c = 9 := UInt8.toNat_inj.1 h
    subst this; rfl
  · have : c = 10 := UInt8.toNat_inj.1 h
    subst this; rfl
theorem spB_no {c : UInt8} (h1 : c.toNat ≠ 32) (h2 : c.toNat ≠ 9) (h3 : c.toNat ≠ 10) : spB c = false := by
  have e1 : c ≠ 32 := fun e => h1 (by rw [e]; rfl)
  have e2 : c ≠ 9 := fun e => h2 (by rw [e]; rfl)
  have e3 : c ≠ 10 := fun e => h3 (by rw [e]; rfl)
  simp [spB, e1, e2, e3]

set_option maxHeartbeats 4000000 in
theorem skipSpace_any (s : ByteArray) (i : Nat) (w : World) (hs : s.size ≤ 1000000) (hi9 : i ≤ 2000000) :
    Calls Tryz.prog 153 #[.string s, .int .i64 i] w fun e w' => e = .returned (.int .i64 (rn spB s i)) ∧ w = w' := by
  go_enter Tryz.func153, Tryz.ntmps153
  go_wp2_with fail
  go_loopg [1] (s.size - i) (fun k v wr => ∃ j : Nat, v = .int .i64 j ∧ k = s.size - j ∧ j ≤ 2000000 ∧ rn spB s j = rn spB s i ∧ w = wr)
  case atStart => exact ⟨i, rfl, rfl, hi9, rfl, rfl⟩
  case round =>
    obtain ⟨j, rfl, rfl, hj, hp, rfl⟩ := hrel
    have HP := Lib.hid hp
    clear hp
    by_cases hlt : j < s.size
    · have v1 : (j : Int) < s.size := by omega
      have v2 : (0 : Int) ≤ j := by omega
      have v3 : IntKind.i64.wrap ((j : Int) + 1) = (j : Int) + 1 := IntWalk.i64_in _ (by omega)
      by_cases c1 : s[j].toNat = 32
      · have d1 : ((s[j].toNat : Int) == 32) = true := d_yes c1
        have HS := Lib.hid (rn_step hlt (spB_yes (Or.inl c1)))
        clear c1
        go_wp2_with fail
        go_roundg (s.size - (j + 1))
        case measure => omega
        case rel => exact ⟨j + 1, by simp, rfl, by omega, by rw [← HS.out, HP.out], rfl⟩
      · have d1 : ((s[j].toNat : Int) == 32) = false := d_no c1
        by_cases c2 : s[j].toNat = 9
        · have d2 : ((s[j].toNat : Int) == 9) = true := d_yes c2
          have HS := Lib.hid (rn_step hlt (spB_yes (Or.inr (Or.inl c2))))
          clear c1 c2
          go_wp2_with fail
          go_roundg (s.size - (j + 1))
          case measure => omega
          case rel => exact ⟨j + 1, by simp, rfl, by omega, by rw [← HS.out, HP.out], rfl⟩
        · have d2 : ((s[j].toNat : Int) == 9) = false := d_no c2
          by_cases c3 : s[j].toNat = 10
          · have d3 : ((s[j].toNat : Int) == 10) = true := d_yes c3
            have HS := Lib.hid (rn_step hlt (spB_yes (Or.inr (Or.inr c3))))
            clear c1 c2 c3
            go_wp2_with fail
            go_roundg (s.size - (j + 1))
            case measure => omega
            case rel => exact ⟨j + 1, by simp, rfl, by omega, by rw [← HS.out, HP.out], rfl⟩
          · have d3 : ((s[j].toNat : Int) == 10) = false := d_no c3
            have HS := Lib.hid (rn_stop hlt (spB_no c1 c2 c3))
            clear c1 c2 c3
            go_wp2_with fail
            go_ret
            exact ⟨by rw [← HP.out, HS.out]; rfl, rfl⟩
    · have v1 : ¬ (j : Int) < s.size := by omega
      have HS := Lib.hid (rn_end (P := spB) (s := s) (i := j) (by omega))
      go_wp2_with fail
      go_ret
      exact ⟨by rw [← HP.out, HS.out]; rfl, rfl⟩

/-- A name of a tag from place i on: where it ends. -/
def tagN (s : ByteArray) (i : Nat) : Option Nat := if h : i < s.size then (if ltrB s[i] then some (rn ldhB s (i + 1)) else none) else none

set_option maxHeartbeats 4000000 in
theorem tagName_some (s : ByteArray) (i j0 : Nat) (w : World) (hs : s.size ≤ 1000000) (h : tagN s i = some j0) :
    Calls Tryz.prog 238 #[.string s, .int .i64 i] w fun e w' => e = .returned (.tuple #[.string (s.extract i j0), .int .i64 j0, .bool true]) ∧ w = w' := by
  unfold tagN at h
  by_cases hi : i < s.size
  · rw [dif_pos hi] at h
    cases hl : ltrB s[i] with
    | false => rw [hl] at h; simp at h
    | true =>
      rw [hl] at h
      have h0 : rn ldhB s (i + 1) = j0 := by simpa using h
      have H0 := Lib.hid h0
      have HL := Lib.hid hl
      clear h h0 hl
      have w1 : (i : Int) < s.size := by omega
      have w2 : (0 : Int) ≤ i := by omega
      go_enter Tryz.func238, Tryz.ntmps238
      go_wp2_with fail
      refine (isLetter_any s[i] w).mono ?_
      rintro e w' ⟨rfl, rfl⟩
      rw [HL.out]
      have w3 : IntKind.i64.wrap ((i : Int) + 1) = (i : Int) + 1 := IntWalk.i64_in _ (by omega)
      go_wp2_with fail
      go_loopg [7] (s.size - (i + 1)) (fun k v wr => ∃ j : Nat, v = .int .i64 j ∧ k = s.size - j ∧ i + 1 ≤ j ∧ j ≤ s.size ∧ rn ldhB s j = j0 ∧ w = wr)
      case atStart => exact ⟨i + 1, by simp, rfl, Nat.le_refl _, by omega, H0.out, rfl⟩
      case round =>
        obtain ⟨j, rfl, rfl, hj1, hj, hp, rfl⟩ := hrel
        have HP := Lib.hid hp
        clear hp
        by_cases hlt : j < s.size
        · have v1 : (j : Int) < s.size := by omega
          have v2 : (0 : Int) ≤ j := by omega
          have v3 : IntKind.i64.wrap ((j : Int) + 1) = (j : Int) + 1 := IntWalk.i64_in _ (by omega)
          have v4 : (i : Int) ≤ j := by omega
          have v5 : (j : Int) ≤ s.size := by omega
          go_wp2_with fail
          refine (isLDH_any s[j] w).mono ?_
          rintro e w' ⟨rfl, rfl⟩
          cases hc : ldhB s[j] with
          | true =>
            have HS := Lib.hid (rn_step hlt hc)
            clear hc
            go_wp2_with fail
            go_roundg (s.size - (j + 1))
            case measure => omega
            case rel => exact ⟨j + 1, by simp, rfl, by omega, by omega, by rw [← HS.out, HP.out], rfl⟩
          | false =>
            have hS := rn_stop hlt hc
            rw [HP.out] at hS
            subst hS
            clear hc
            go_wp2_with fail
            go_ret3
            exact ⟨by simp, rfl⟩
        · have hS := rn_end (P := ldhB) (s := s) (i := j) (by omega)
          rw [HP.out] at hS
          subst hS
          have v1 : ¬ (j0 : Int) < s.size := by omega
          have v4 : (i : Int) ≤ j0 := by omega
          have v5 : (j0 : Int) ≤ s.size := by omega
          go_wp2_with fail
          go_ret3
          exact ⟨by simp, rfl⟩
  · rw [dif_neg hi] at h
    cases h
end Go.Proofs.YtmmopoofheblbaaGreatDoor


/- Links: an opening bracket, a destination. -/
namespace Go.Proofs.YtmmopoofheblbaaGreatDoor.T
open Go Go.RowKit Go.Proofs

set_option maxRecDepth 100000 in
set_option maxHeartbeats 4000000 in
theorem imageOpen_yes (s : ByteArray) (i : Nat) (hi : i + 1 < s.size) (hs : s.size ≤ 1000000) (hc : s[i + 1] = 91) : PieceCall s i 106 (.opn (s.extract i (i + 2)) ((i + 2 : Nat) : Int)) i (i + 2) := by
  intro bp q W hp
  have w1 : (i : Int) + 1 < s.size := by omega
  have w2 : (0 : Int) ≤ (i : Int) + 1 := by omega
  have w3 : IntKind.i64.wrap ((i : Int) + 1) = (i : Int) + 1 := IntWalk.i64_in _ (by omega)
  have w4 : IntKind.i64.wrap ((i : Int) + 2) = (i : Int) + 2 := IntWalk.i64_in _ (by omega)
  have w5 : ((i : Int) + 1).toNat = i + 1 := by omega
  have w6 : ((i : Int) + 2).toNat = i + 2 := by omega
  have w7 : (i : Int) + 2 ≤ s.size := by omega
  have w8 : (0 : Int) ≤ i := by omega
  have w9 : (i : Int) ≤ i + 2 := by omega
  have d1 : ((s[i + 1].toNat : Int) == 91) = true := by rw [hc]; rfl
  have HP := Lib.hid hp
  clear hp hc
  go_enter Tryz.func106, Tryz.ntmps106
  go_wp2_with fail
  refine bodyPost_ret (v := .tuple #[.iface 228 (.pointer (some ⟨W.heap.size, 0, none⟩)), .int .i64 i, .int .i64 (i + 2 : Nat), .bool true]) (by simp [results, Tryz.results106, go_sem]) rfl ?_
  have hS : Same W (W.alloc (.cells #[.string (s.extract i (i + 2)), .int .i64 ((i : Int) + 2)] 231)) := (Mods.refl _ W).alloc _
  have e1 : ((i + 2 : Nat) : Int) = (i : Int) + 2 := by omega
  refine ⟨W.heap.size, q.corner, .opn (s.extract i (i + 2)) ((i + 2 : Nat) : Int), ?_, hS.mono (fun _ _ x => absurd x (fun x => x)), HP.out.same hS, rfl, ⟨W.heap.size, rfl, ?_, Nat.lt_irrefl _⟩, fun p h => (by cases h)⟩
  · rw [e1]
    rfl
  · rw [e1]
    exact Blk.newAt _ _ rfl

/-- Where a destination that begins at j ends, d parentheses being open. -/
def destRun (s : ByteArray) (d j : Nat) : Option Nat :=
  if h : j < s.size then
    if s[j] = 40 then (if 32 < d + 1 then none else destRun s (d + 1) (j + 1))
    else if s[j] = 41 then (if d = 0 then some j else destRun s (d - 1) (j + 1))
    else if s[j] = 92 then (if h2 : j + 1 < s.size then (if s[j + 1] = 32 ∨ s[j + 1] = 9 then none else destRun s d (j + 2)) else destRun s d (j + 1))
    else if s[j] = 32 ∨ s[j] = 9 ∨ s[j] = 10 then some j
    else destRun s d (j + 1)
  else some j
termination_by s.size - j

theorem ne_int {c k : UInt8} (h : c ≠ k) : ((c.toNat : Int) == k.toNat) = false := by
  refine beq_eq_false_iff_ne.2 (fun e => h (UInt8.toNat.inj ?_))
  omega

set_option maxRecDepth 100000 in
set_option maxHeartbeats 8000000 in
theorem linkDest_any (s : ByteArray) (i : Nat) (w : World) (hi : i < s.size) (hs : s.size ≤ 900000) (h60 : s[i] ≠ 60) (u : Nat → ByteArray) (hU : ∀ j, destRun s 0 i = some j → Calls Tryz.prog 205 #[.string (s.extract i j)] w fun e w' => e = .returned (.string (u j)) ∧ Same w w') :
    Calls Tryz.prog 154 #[.string s, .int .i64 i] w fun e w' => Same w w' ∧ ((destRun s 0 i = none ∧ e = .returned (.tuple #[.string ⟨#[]⟩, .int .i64 0, .bool false])) ∨ ∃ j, destRun s 0 i = some j ∧ i ≤ j ∧ j ≤ s.size ∧ e = .returned (.tuple #[.string (u j), .int .i64 j, .bool true])) := by
  have HU := Lib.hid hU
  clear hU
  have w1 : ¬ ((s.size : Int) ≤ i) := by omega
  have w1' : (i : Int) < s.size := by omega
  have w2 : (0 : Int) ≤ i := by omega
  have d1 : ((s[i].toNat : Int) == 60) = false := ne_int h60
  clear h60
  go_enter Tryz.func154, Tryz.ntmps154
  go_wp2_with fail
  go_step3
  go_wp2_with fail
  go_step3
  clear d1
  go_wp2_with fail
  generalize hr : destRun s 0 i = r at HU ⊢
  have HRR := Lib.hid hr
  clear hr
  have hdec : decide (s.size ≤ i) = false := by simpa using hi
  try rw [hdec]
  go_loopg [8, 9] (s.size - i) (fun m v8 v9 wr => ∃ d j : Nat, v8 = .int .i64 d ∧ v9 = .int .i64 j ∧ m = s.size - j ∧ i ≤ j ∧ j ≤ s.size ∧ d ≤ 32 ∧ w = wr ∧ destRun s d j = destRun s 0 i)
  case atStart => exact ⟨0, i, rfl, rfl, rfl, Nat.le_refl _, by omega, by omega, rfl, rfl⟩
  case round =>
    obtain ⟨d, j, rfl, rfl, rfl, hij, hjs, hd, rfl, hrun⟩ := hrel
    rw [HRR.out] at hrun
    have v1 : IntKind.i64.wrap ((j : Int) + 1) = (j : Int) + 1 := IntWalk.i64_in _ (by omega)
    have v2 : (0 : Int) ≤ j := by omega
    have v3 : (i : Int) ≤ j := by omega
    have v4 : (j : Int) ≤ s.size := by omega
    have hstop : destRun s d j = some j → r = some j := fun h => by rw [← hrun]; exact h
    by_cases hlt : j < s.size
    · have v5 : (j : Int) < s.size := by omega
      have hun := hrun
      rw [destRun, dif_pos hlt] at hun
      by_cases h40 : s[j] = 40
      · rw [if_pos h40] at hun
        have e1 : ((s[j].toNat : Int) == 40) = true := by rw [h40]; rfl
        have u1 : IntKind.i64.wrap ((d : Int) + 1) = (d : Int) + 1 := IntWalk.i64_in _ (by omega)
        by_cases h32 : 32 < d + 1
        · rw [if_pos h32] at hun
          have u2 : (32 : Int) < (d : Int) + 1 := by omega
          have HUN := Lib.hid hun
          clear hun hrun hstop h40
          go_wp2_with fail
          try rw [Exit.noGoto_ret]
          refine bodyPost_ret (v := .tuple #[.string ⟨#[]⟩, .int .i64 0, .bool false]) (by simp [results, Tryz.results154, go_sem]) rfl ?_
          exact ⟨Mods.refl _ _, Or.inl ⟨HRR.out.trans HUN.out.symm, rfl⟩⟩
        · rw [if_neg h32] at hun
          have u2 : ¬ (32 : Int) < (d : Int) + 1 := by omega
          clear h40
          have HUN := Lib.hid hun
          clear hun hrun hstop
          go_wp2_with fail
          go_roundg (s.size - (j + 1))
          case measure => omega
          case rel => exact ⟨d + 1, j + 1, by simp, by simp, rfl, by omega, by omega, by omega, rfl, by rw [HRR.out]; exact HUN.out⟩
      · rw [if_neg h40] at hun
        have e1 : ((s[j].toNat : Int) == 40) = false := ne_int h40
        by_cases h41 : s[j] = 41
        · rw [if_pos h41] at hun
          have e2 : ((s[j].toNat : Int) == 41) = true := by rw [h41]; rfl
          by_cases h0 : d = 0
          · rw [if_pos h0] at hun
            subst h0
            have hst : destRun s 0 j = some j := hrun.trans hun.symm
            clear h40 h41
            have HUN := Lib.hid (hstop hst)
            clear hun hrun hstop hst
            go_wp2_with fail
            refine (HU.out j HUN.out).mono ?_
            rintro e w' ⟨rfl, hS⟩
            have HS := Lib.hid hS
            clear hS
            go_wp2_with fail
            try rw [Exit.noGoto_ret]
            refine bodyPost_ret (v := .tuple #[.string (u j), .int .i64 j, .bool true]) (by simp [results, Tryz.results154, go_sem]) rfl ?_
            exact ⟨HS.out, Or.inr ⟨j, HRR.out.trans HUN.out, hij, hjs, rfl⟩⟩
          · rw [if_neg h0] at hun
            have u3 : ((d : Int) == 0) = false := beq_eq_false_iff_ne.2 (by omega)
            have u4 : IntKind.i64.wrap ((d : Int) - 1) = (d : Int) - 1 := IntWalk.i64_in _ (by omega)
            clear h40 h41
            have HUN := Lib.hid hun
            clear hun hrun hstop
            go_wp2_with fail
            go_roundg (s.size - (j + 1))
            case measure => omega
            case rel => exact ⟨d - 1, j + 1, by rw [show ((d - 1 : Nat) : Int) = (d : Int) - 1 by omega], by simp, rfl, by omega, by omega, by omega, rfl, by rw [HRR.out]; exact HUN.out⟩
        · rw [if_neg h41] at hun
          have e2 : ((s[j].toNat : Int) == 41) = false := ne_int h41
          by_cases h92 : s[j] = 92
          · rw [if_pos h92] at hun
            have e3 : ((s[j].toNat : Int) == 92) = true := by rw [h92]; rfl
            by_cases h2 : j + 1 < s.size
            · rw [dif_pos h2] at hun
              have u1 : (j : Int) + 1 < s.size := by omega
              have u2 : (0 : Int) ≤ (j : Int) + 1 := by omega
              have u3 : ((j : Int) + 1).toNat = j + 1 := by omega
              have u4 : IntKind.i64.wrap ((j : Int) + 1 + 1) = (j : Int) + 1 + 1 := IntWalk.i64_in _ (by omega)
              by_cases hA : s[j + 1] = 32
              · rw [if_pos (Or.inl hA)] at hun
                have e4 : ((s[j + 1].toNat : Int) == 32) = true := by rw [hA]; rfl
                have HUN := Lib.hid hun
                clear hun hrun hstop h40 h41 h92 hA
                go_wp2_with fail
                try rw [Exit.noGoto_ret]
                refine bodyPost_ret (v := .tuple #[.string ⟨#[]⟩, .int .i64 0, .bool false]) (by simp [results, Tryz.results154, go_sem]) rfl ?_
                exact ⟨Mods.refl _ _, Or.inl ⟨HRR.out.trans HUN.out.symm, rfl⟩⟩
              · have e4 : ((s[j + 1].toNat : Int) == 32) = false := ne_int hA
                by_cases hB : s[j + 1] = 9
                · rw [if_pos (Or.inr hB)] at hun
                  have e5 : ((s[j + 1].toNat : Int) == 9) = true := by rw [hB]; rfl
                  have HUN := Lib.hid hun
                  clear hun hrun hstop h40 h41 h92 hA hB
                  go_wp2_with fail
                  try rw [Exit.noGoto_ret]
                  refine bodyPost_ret (v := .tuple #[.string ⟨#[]⟩, .int .i64 0, .bool false]) (by simp [results, Tryz.results154, go_sem]) rfl ?_
                  exact ⟨Mods.refl _ _, Or.inl ⟨HRR.out.trans HUN.out.symm, rfl⟩⟩
                · rw [if_neg (fun h => h.elim hA hB)] at hun
                  have e5 : ((s[j + 1].toNat : Int) == 9) = false := ne_int hB
                  clear h40 h41 h92 hA hB
                  have HUN := Lib.hid hun
                  clear hun hrun hstop
                  go_wp2_with fail
                  go_roundg (s.size - (j + 2))
                  case measure => omega
                  case rel => exact ⟨d, j + 2, by simp, by rw [show ((j + 2 : Nat) : Int) = (j : Int) + 1 + 1 by omega], rfl, by omega, by omega, by omega, rfl, by rw [HRR.out]; exact HUN.out⟩
            · rw [dif_neg h2] at hun
              have u1 : ¬ (j : Int) + 1 < s.size := by omega
              clear h40 h41 h92
              have HUN := Lib.hid hun
              clear hun hrun hstop
              go_wp2_with fail
              go_roundg (s.size - (j + 1))
              case measure => omega
              case rel => exact ⟨d, j + 1, by simp, by simp, rfl, by omega, by omega, by omega, rfl, by rw [HRR.out]; exact HUN.out⟩
          · rw [if_neg h92] at hun
            have e3 : ((s[j].toNat : Int) == 92) = false := ne_int h92
            by_cases hA : s[j] = 32
            · rw [if_pos (Or.inl hA)] at hun
              have e4 : ((s[j].toNat : Int) == 32) = true := by rw [hA]; rfl
              have hst : destRun s d j = some j := hrun.trans hun.symm
              clear h40 h41 h92 hA
              have HUN := Lib.hid (hstop hst)
              clear hun hrun hstop hst
              go_wp2_with fail
              refine (HU.out j HUN.out).mono ?_
              rintro e w' ⟨rfl, hS⟩
              have HS := Lib.hid hS
              clear hS
              go_wp2_with fail
              try rw [Exit.noGoto_ret]
              refine bodyPost_ret (v := .tuple #[.string (u j), .int .i64 j, .bool true]) (by simp [results, Tryz.results154, go_sem]) rfl ?_
              exact ⟨HS.out, Or.inr ⟨j, HRR.out.trans HUN.out, hij, hjs, rfl⟩⟩
            · have e4 : ((s[j].toNat : Int) == 32) = false := ne_int hA
              by_cases hB : s[j] = 9
              · rw [if_pos (Or.inr (Or.inl hB))] at hun
                have e5 : ((s[j].toNat : Int) == 9) = true := by rw [hB]; rfl
                have hst : destRun s d j = some j := hrun.trans hun.symm
                clear h40 h41 h92 hA hB
                have HUN := Lib.hid (hstop hst)
                clear hun hrun hstop hst
                go_wp2_with fail
                refine (HU.out j HUN.out).mono ?_
                rintro e w' ⟨rfl, hS⟩
                have HS := Lib.hid hS
                clear hS
                go_wp2_with fail
                try rw [Exit.noGoto_ret]
                refine bodyPost_ret (v := .tuple #[.string (u j), .int .i64 j, .bool true]) (by simp [results, Tryz.results154, go_sem]) rfl ?_
                exact ⟨HS.out, Or.inr ⟨j, HRR.out.trans HUN.out, hij, hjs, rfl⟩⟩
              · have e5 : ((s[j].toNat : Int) == 9) = false := ne_int hB
                by_cases hC : s[j] = 10
                · rw [if_pos (Or.inr (Or.inr hC))] at hun
                  have e6 : ((s[j].toNat : Int) == 10) = true := by rw [hC]; rfl
                  have hst : destRun s d j = some j := hrun.trans hun.symm
                  clear h40 h41 h92 hA hB hC
                  have HUN := Lib.hid (hstop hst)
                  clear hun hrun hstop hst
                  go_wp2_with fail
                  refine (HU.out j HUN.out).mono ?_
                  rintro e w' ⟨rfl, hS⟩
                  have HS := Lib.hid hS
                  clear hS
                  go_wp2_with fail
                  try rw [Exit.noGoto_ret]
                  refine bodyPost_ret (v := .tuple #[.string (u j), .int .i64 j, .bool true]) (by simp [results, Tryz.results154, go_sem]) rfl ?_
                  exact ⟨HS.out, Or.inr ⟨j, HRR.out.trans HUN.out, hij, hjs, rfl⟩⟩
                · have e6 : ((s[j].toNat : Int) == 10) = false := ne_int hC
                  rw [if_neg (fun h => h.elim hA (fun h => h.elim hB hC))] at hun
                  clear h40 h41 h92 hA hB hC
                  have HUN := Lib.hid hun
                  clear hun hrun hstop
                  go_wp2_with fail
                  go_roundg (s.size - (j + 1))
                  case measure => omega
                  case rel => exact ⟨d, j + 1, by simp, by simp, rfl, by omega, by omega, by omega, rfl, by rw [HRR.out]; exact HUN.out⟩
    · have hjn : j = s.size := by omega
      have v5 : ¬ ((j : Int) < s.size) := by omega
      have hun := hrun
      rw [destRun, dif_neg hlt] at hun
      have hst : destRun s d j = some j := hrun.trans hun.symm
      clear hjn hlt
      have HUN := Lib.hid (hstop hst)
      clear hun hrun hstop hst
      go_wp2_with fail
      refine (HU.out j HUN.out).mono ?_
      rintro e w' ⟨rfl, hS⟩
      have HS := Lib.hid hS
      clear hS
      go_wp2_with fail
      try rw [Exit.noGoto_ret]
      refine bodyPost_ret (v := .tuple #[.string (u j), .int .i64 j, .bool true]) (by simp [results, Tryz.results154, go_sem]) rfl ?_
      exact ⟨HS.out, Or.inr ⟨j, HRR.out.trans HUN.out, hij, hjs, rfl⟩⟩
end Go.Proofs.YtmmopoofheblbaaGreatDoor.T

/- Links: linkCorner, mdUnescape of a plain text, parseLinkClose at a destination in parentheses without a title. -/
namespace Go.Proofs.YtmmopoofheblbaaGreatDoor.T
open Go Go.RowKit Go.Proofs

theorem mdUnescape_plain (s : ByteArray) (w : World) (hs : s.size ≤ 1000000) (h92 : ∀ i (hi : i < s.size), s[i] ≠ 92) (h38 : ∀ i (hi : i < s.size), s[i] ≠ 38) :
    Calls Tryz.prog 205 #[.string s] w fun e w' => e = .returned (.string s) ∧ w = w' := by
  have i1 := idx1_none h92
  have i2 := idx1_none h38
  go_enter Tryz.func205, Tryz.ntmps205
  go_wp2_with fail
  refine (zzContains_any s 92 w hs).mono ?_
  rintro e w' ⟨rfl, rfl⟩
  rw [i1]
  go_wp2_with fail
  refine (zzContains_any s 38 w hs).mono ?_
  rintro e w' ⟨rfl, rfl⟩
  rw [i2]
  go_wp2_with fail
  go_ret
  exact ⟨rfl, rfl⟩

set_option maxRecDepth 100000 in
set_option maxHeartbeats 4000000 in
theorem linkCorner_no (url : ByteArray) (hs : url.size ≤ 1000000) (h37 : ∀ i (hi : i < url.size), url[i] ≠ 37) : CornerOf url := by
  intro w
  have H37 := Lib.hid h37
  clear h37
  go_enter Tryz.func116, Tryz.ntmps116
  go_wp2_with fail
  go_loopg [3] url.size (fun m v3 wr => ∃ j : Nat, v3 = .int .i64 j ∧ m = url.size - j ∧ j ≤ url.size ∧ w = wr)
  case atStart => exact ⟨0, rfl, rfl, Nat.zero_le _, rfl⟩
  case round =>
    obtain ⟨j, rfl, rfl, hj, rfl⟩ := hrel
    have v1 : IntKind.i64.wrap ((j : Int) + 1) = (j : Int) + 1 := IntWalk.i64_in _ (by omega)
    have v2 : (0 : Int) ≤ j := by omega
    by_cases hlt : j < url.size
    · have v5 : (j : Int) < url.size := by omega
      have e1 : ((url[j].toNat : Int) == 37) = false := ne_int (H37.out j hlt)
      go_wp2_with fail
      go_roundg (url.size - (j + 1))
      case measure => omega
      case rel => exact ⟨j + 1, by simp, rfl, by omega, rfl⟩
    · have v5 : ¬ ((j : Int) < url.size) := by omega
      go_wp2_with fail
      go_ret
      exact ⟨false, rfl, rfl⟩

set_option maxRecDepth 100000 in
set_option maxHeartbeats 8000000 in
theorem linkClose_simple (LK : World → PSt → Prop) (s : ByteArray) (i : Nat) (img : Bool) (pos a j k : Nat) (u : ByteArray) (hs : s.size ≤ 900000) (hi : i + 1 < s.size) (h40 : s[i + 1] = 40) (ha : rn spB s (i + 2) = a) (has : a < s.size) (ha41 : s[a] ≠ 41)
    (hD : ∀ W, Calls Tryz.prog 154 #[.string s, .int .i64 a] W fun e w' => e = .returned (.tuple #[.string u, .int .i64 j, .bool true]) ∧ Same W w') (hj : j ≤ s.size) (hk : rn spB s j = k) (hks : k < s.size) (hk41 : s[k] = 41) :
    CloseYes LK s i img pos u ⟨#[]⟩ 0 false (k + 1) := by
  intro bp ob q W hp _ _
  have hm : (1 : Nat) = 1 := rfl
  have HP := Lib.hid hp
  have HD := Lib.hid hD
  have HA := Lib.hid ha
  have HK := Lib.hid hk
  have w1 : (i : Int) + 1 < s.size := by omega
  have w2 : (0 : Int) ≤ (i : Int) + 1 := by omega
  have w3 : IntKind.i64.wrap ((i : Int) + 1) = (i : Int) + 1 := IntWalk.i64_in _ (by omega)
  have w4 : IntKind.i64.wrap ((i : Int) + 2) = (i : Int) + 2 := IntWalk.i64_in _ (by omega)
  have w5 : ((i : Int) + 1).toNat = i + 1 := by omega
  have d1 : ((s[i + 1].toNat : Int) == 40) = true := by rw [h40]; rfl
  have d2 : ((s[a].toNat : Int) == 41) = false := ne_int ha41
  have d3 : ((s[k].toNat : Int) == 41) = true := by rw [hk41]; rfl
  have v1 : (a : Int) < s.size := by omega
  have v2 : (0 : Int) ≤ a := by omega
  have v3 : (k : Int) < s.size := by omega
  have v4 : (0 : Int) ≤ k := by omega
  have v5 : IntKind.i64.wrap ((k : Int) + 1) = (k : Int) + 1 := IntWalk.i64_in _ (by omega)
  have e2 : (i : Int) + 2 = ((i + 2 : Nat) : Int) := by omega
  have HE2 := Lib.hid e2
  clear hp hD ha hk h40 ha41 hk41 e2 hm
  go_enter Tryz.func115, Tryz.ntmps115
  go_wp2_with fail
  rw [HE2.out]
  refine (skipSpace_any s (i + 2) W (by omega) (by omega)).mono ?_
  rintro e w' ⟨rfl, rfl⟩
  rw [HA.out]
  go_wp2_with fail
  refine (HD.out W).mono ?_
  rintro e w1' ⟨rfl, hS1⟩
  have HS1 := Lib.hid hS1
  clear hS1
  go_wp2_with fail
  refine (skipSpace_any s j w1' (by omega) (by omega)).mono ?_
  rintro e w' ⟨rfl, rfl⟩
  rw [HK.out]
  go_wp2_with fail
  try rw [Exit.noGoto_ret]
  refine bodyPost_ret (v := .tuple #[.pointer (some ⟨w1'.heap.size, 0, none⟩), .int .i64 (k + 1 : Nat), .bool true]) (by simp [results, Tryz.results115, go_sem]) rfl ?_
  have hS := HS1.out.alloc (.cells #[.slice none 0 0, .string u, .string ⟨#[]⟩, .int .u8 0, .bool false] 114)
  exact ⟨q.corner, w1'.heap.size, rfl, hS.mono (fun _ _ x => absurd x (fun x => x)), HP.out.same hS, HS1.out.size, Blk.newAt _ _ rfl⟩
end Go.Proofs.YtmmopoofheblbaaGreatDoor.T

/- Images within images: the run of inline's loop. -/
namespace Go.Proofs.YtmmopoofheblbaaGreatDoor.T
open Go Go.RowKit Go.Proofs

theorem get_of {t : ByteArray} {pre post : List UInt8} {c : UInt8} (h : t.data.toList = pre ++ c :: post) : ∃ hi : pre.length < t.size, t[pre.length] = c := by
  have hl : t.size = (pre ++ c :: post).length := by rw [← h]; rfl
  have hi : pre.length < t.size := by rw [hl]; simp
  refine ⟨hi, ?_⟩
  have h1 : t.data.toList[pre.length]? = some c := by rw [h]; simp
  have h2 : t.data.toList[pre.length]? = some t[pre.length] := List.getElem?_eq_getElem (show pre.length < t.data.toList.length from hi)
  rw [h2] at h1
  exact Option.some.inj h1

/-- A sign of a plain destination. -/
def okD (c : UInt8) : Bool := !([40, 41, 92, 32, 9, 10, 60, 38, 37] : List UInt8).contains c
theorem okD_ne {c : UInt8} (h : okD c = true) (k : UInt8) (hk : k ∈ ([40, 41, 92, 32, 9, 10, 60, 38, 37] : List UInt8)) : c ≠ k := by
  intro e
  subst e
  unfold okD at h
  rw [List.contains_iff_mem.2 hk] at h
  cases h

theorem dest_run (t : ByteArray) (post : List UInt8) : ∀ (v pre : List UInt8), t.data.toList = pre ++ (v ++ 41 :: post) → (∀ c, c ∈ v → okD c = true) → destRun t 0 pre.length = some (pre.length + v.length)
  | [], pre, h, _ => by
    obtain ⟨hi, hc⟩ := get_of (c := 41) (post := post) (by simpa using h)
    rw [destRun, dif_pos hi, if_neg (by rw [hc]; decide), if_pos hc, if_pos rfl]
    rfl
  | c :: v, pre, h, hv => by
    obtain ⟨hi, hc⟩ := get_of (c := c) (post := v ++ 41 :: post) (by simpa using h)
    have hok := hv c (List.mem_cons_self ..)
    have ih := dest_run t post v (pre ++ [c]) (by rw [h]; simp) (fun x hx => hv x (List.mem_cons_of_mem _ hx))
    have n1 := okD_ne hok 40 (by decide)
    have n2 := okD_ne hok 41 (by decide)
    have n3 := okD_ne hok 92 (by decide)
    have n4 := okD_ne hok 32 (by decide)
    have n5 := okD_ne hok 9 (by decide)
    have n6 := okD_ne hok 10 (by decide)
    rw [destRun, dif_pos hi, hc, if_neg n1, if_neg n2, if_neg n3, if_neg (fun h => h.elim n4 (fun h => h.elim n5 n6))]
    rw [List.length_append, List.length_singleton] at ih
    rw [ih, List.length_cons]
    congr 1
    omega

theorem ext_of {t : ByteArray} {pre post : List UInt8} {u : ByteArray} (h : t.data.toList = pre ++ (u.data.toList ++ post)) : t.extract pre.length (pre.length + u.size) = u := by
  apply ByteArray.ext
  rw [ByteArray.data_extract]
  apply Array.toList_inj.1
  rw [Array.toList_extract, h]
  have e : u.size = u.data.toList.length := rfl
  rw [e]
  simp

/-- A bracket, a plain destination in parentheses. -/
theorem close_at (LK : World → PSt → Prop) (t : ByteArray) (ht : t.size ≤ 900000) (img : Bool) (pos : Nat) (pre post : List UInt8) (u : ByteArray) (hu0 : 0 < u.size) (hu : ∀ c, c ∈ u.data.toList → okD c = true) (h : t.data.toList = pre ++ ([93, 40] ++ u.data.toList ++ [41] ++ post)) :
    CloseYes LK t pre.length img pos u ⟨#[]⟩ 0 false (pre.length + 2 + u.size + 1) ∧ CornerOf u ∧ pre.length + 2 + u.size + 1 ≤ t.size ∧ ∃ hi : pre.length < t.size, t[pre.length] = 93 := by
  have hsz : t.size = pre.length + (2 + u.size + 1 + post.length) := by
    have e1 : t.size = t.data.toList.length := rfl
    have e2 : u.size = u.data.toList.length := rfl
    rw [e1, h, e2]
    simp only [List.length_append, List.length_cons, List.length_nil]
  obtain ⟨i0, c0⟩ := get_of (pre := pre) (c := 93) (post := 40 :: (u.data.toList ++ 41 :: post)) (by rw [h]; simp)
  obtain ⟨i1, c1⟩ := get_of (pre := pre ++ [93]) (c := 40) (post := u.data.toList ++ 41 :: post) (by rw [h]; simp)
  have hb : t.data.toList = (pre ++ [93, 40]) ++ (u.data.toList ++ 41 :: post) := by rw [h]; simp
  have hrun := dest_run t post u.data.toList (pre ++ [93, 40]) hb hu
  have hext := ext_of hb
  obtain ⟨d, v, hdv⟩ : ∃ d v, u.data.toList = d :: v := by
    cases hd : u.data.toList with
    | nil =>
      have : u.size = u.data.toList.length := rfl
      rw [hd, List.length_nil] at this
      omega
    | cons d v => exact ⟨d, v, rfl⟩
  obtain ⟨i2, c2⟩ := get_of (pre := pre ++ [93, 40]) (c := d) (post := v ++ 41 :: post) (by rw [hb, hdv]; simp)
  have hd := hu d (by rw [hdv]; exact List.mem_cons_self ..)
  obtain ⟨i3, c3⟩ := get_of (pre := pre ++ [93, 40] ++ u.data.toList) (c := 41) (post := post) (by rw [hb]; simp)
  have l1 : (pre ++ [93] : List UInt8).length = pre.length + 1 := by simp
  have l2 : (pre ++ [93, 40] : List UInt8).length = pre.length + 2 := by simp
  have l3 : (pre ++ [93, 40] ++ u.data.toList).length = pre.length + 2 + u.size := by
    have e2 : u.size = u.data.toList.length := rfl
    rw [List.length_append, l2, e2]
  have l4 : u.data.toList.length = u.size := rfl
  simp only [l1] at i1 c1
  simp only [l2] at i2 c2 hrun hext
  simp only [l3] at i3 c3
  rw [l4] at hrun
  have hus : ∀ i (hi : i < u.size), okD u[i] = true := fun i hi => hu _ (List.getElem_mem (show i < u.data.toList.length from hi))
  refine ⟨?_, linkCorner_no u (by omega) (fun i hi => okD_ne (hus i hi) 37 (by decide)), by omega, i0, c0⟩
  refine linkClose_simple LK t pre.length img pos (pre.length + 2) (pre.length + 2 + u.size) (pre.length + 2 + u.size) u ht i1 c1 ?_ i2 ?_ ?_ (by omega) ?_ i3 c3
  · refine rn_stop i2 ?_
    rw [c2]
    simp [spB, okD_ne hd 32 (by decide), okD_ne hd 9 (by decide), okD_ne hd 10 (by decide)]
  · rw [c2]
    exact okD_ne hd 41 (by decide)
  · intro W
    refine (linkDest_any t (pre.length + 2) W i2 ht (by rw [c2]; exact okD_ne hd 60 (by decide)) (fun _ => u) (fun j hj => ?_)).mono ?_
    · rw [hrun] at hj
      cases hj
      rw [hext]
      exact (mdUnescape_plain u W (by omega) (fun i hi => okD_ne (hus i hi) 92 (by decide)) (fun i hi => okD_ne (hus i hi) 38 (by decide))).mono fun e w' ⟨h1, h2⟩ => ⟨h1, by subst h2; exact Mods.refl _ _⟩
    · rintro e w' ⟨hS, h1 | ⟨j, h1, _, _, h2⟩⟩
      · rw [hrun] at h1
        cases h1.1
      · rw [hrun] at h1
        cases h1
        exact ⟨h2, hS⟩
  · refine rn_stop i3 ?_
    rw [c3]
    rfl
end Go.Proofs.YtmmopoofheblbaaGreatDoor.T
