/- Some texts of one proof, put into one file: Auto10, Auto12, Only0, LawA, Frame. -/
import Derived.Test.YtdnlfdppjfjncaaGreatDoorRows
import Derived.WalkKit
import Derived.ProofKit
import Derived.OpenShut
import Derived.ShutString
import Derived.LaidMore
import Derived.LaidHandle
import Derived.LaidLaws
import Derived.Test.YtdnlfdppjfjncaaGreatDoorAu1
import Derived.Test.YtdnlfdppjfjncaaGreatDoorAu8
import Derived.Test.YtdnlfdppjfjncaaGreatDoorAu9
import Derived.Test.YtdnlfdppjfjncaaGreatDoorAu12
/- FnAutolink's text is an automatic link. -/
namespace Go.Proofs.YtdnlfdppjfjncaaGreatDoor
open Go Go.RowKit Go.Proofs

def autoT (a b : ByteArray) : ByteArray := (⟨#[60]⟩ : ByteArray) ++ (a ++ (⟨#[58]⟩ : ByteArray) ++ b) ++ (⟨#[62]⟩ : ByteArray)
theorem autoT_list (a b : ByteArray) : (autoT a b).data.toList = 60 :: (a.data.toList ++ 58 :: (b.data.toList ++ [62])) := by simp [autoT]
theorem autoT_size (a b : ByteArray) : (autoT a b).size = a.size + b.size + 3 := by
  rw [size_list, autoT_list]
  simp only [List.length_cons, List.length_append, List.length_nil]
  have e1 : a.data.toList.length = a.size := rfl
  have e2 : b.data.toList.length = b.size := rfl
  omega
theorem autoT_0 (a b : ByteArray) (h : 0 < (autoT a b).size) : (autoT a b)[0] = 60 := by
  have hg := list_get h
  rw [autoT_list] at hg
  exact (Option.some.inj hg).symm
theorem autoT_a (a b : ByteArray) (j : Nat) (hj : j < a.size) (h : j + 1 < (autoT a b).size) : (autoT a b)[j + 1] = a[j] := by
  have hg := list_get h
  have e1 : a.data.toList.length = a.size := rfl
  rw [autoT_list, List.getElem?_cons_succ, List.getElem?_append_left (by omega), list_get hj] at hg
  exact (Option.some.inj hg).symm
theorem autoT_colon (a b : ByteArray) (h : a.size + 1 < (autoT a b).size) : (autoT a b)[a.size + 1] = 58 := by
  have hg := list_get h
  have e1 : a.data.toList.length = a.size := rfl
  rw [autoT_list, List.getElem?_cons_succ, List.getElem?_append_right (by omega), e1, Nat.sub_self] at hg
  exact (Option.some.inj hg).symm
theorem autoT_b (a b : ByteArray) (j : Nat) (hj : j < b.size) (h : a.size + 1 + j + 1 < (autoT a b).size) : (autoT a b)[a.size + 1 + j + 1] = b[j] := by
  have hg := list_get h
  have e1 : a.data.toList.length = a.size := rfl
  have e2 : b.data.toList.length = b.size := rfl
  rw [autoT_list, List.getElem?_cons_succ, List.getElem?_append_right (by omega), e1, show a.size + 1 + j - a.size = j + 1 by omega, List.getElem?_cons_succ, List.getElem?_append_left (by omega), list_get hj] at hg
  exact (Option.some.inj hg).symm
theorem autoT_end (a b : ByteArray) (h : a.size + b.size + 2 < (autoT a b).size) : (autoT a b)[a.size + b.size + 2] = 62 := by
  have hg := list_get h
  have e1 : a.data.toList.length = a.size := rfl
  have e2 : b.data.toList.length = b.size := rfl
  rw [autoT_list, List.getElem?_cons_succ, List.getElem?_append_right (by omega), e1, show a.size + b.size + 1 - a.size = b.size + 1 by omega, List.getElem?_cons_succ, List.getElem?_append_right (by omega), e2, Nat.sub_self] at hg
  exact (Option.some.inj hg).symm

/-- The bytes of the rest. -/
def RestOk (b : ByteArray) : Prop := ∀ j (h : j < b.size), 33 ≤ b[j].toNat ∧ b[j].toNat ≤ 126 ∧ b[j].toNat ≠ 60 ∧ b[j].toNat ≠ 62

theorem autoT_uri (a b : ByteArray) (h2 : 2 ≤ a.size) (h32 : a.size ≤ 32) (hb : b.size ≤ 60) (ha : ∀ j (h : j < a.size), Ltr a[j]) (hr : RestOk b) : Uri (autoT a b) (a.size + 1) := by
  have hsz := autoT_size a b
  refine ⟨⟨by omega, by omega, by omega, autoT_0 a b, ?_, autoT_colon a b⟩, by omega, by omega, by omega, ?_, ?_⟩
  · intro j h h1 hm
    obtain ⟨i, rfl⟩ : ∃ i, j = i + 1 := ⟨j - 1, by omega⟩
    rw [autoT_a a b i (by omega) h]
    exact ha i (by omega)
  · intro j h h1 hm
    obtain ⟨i, rfl⟩ : ∃ i, j = a.size + 1 + i + 1 := ⟨j - (a.size + 2), by omega⟩
    rw [autoT_b a b i (by omega) h]
    obtain ⟨r1, r2, r3, r4⟩ := hr i (by omega)
    exact ⟨by omega, r3, r4⟩
  · intro h
    have e : (autoT a b).size - 1 = a.size + b.size + 2 := by omega
    have := autoT_end a b (by omega)
    simpa only [e] using this

theorem autoT_line (a b : ByteArray) (h2 : 2 ≤ a.size) (h32 : a.size ≤ 32) (hb : b.size ≤ 60) (ha : ∀ j (h : j < a.size), Ltr a[j]) (hr : RestOk b) : OneLn (autoT a b) := by
  have hsz := autoT_size a b
  have hall : ∀ i (hi : i < (autoT a b).size), 33 ≤ (autoT a b)[i].toNat ∧ (autoT a b)[i].toNat ≤ 126 := by
    intro i hi
    by_cases c0 : i = 0
    · subst c0; rw [autoT_0]; decide
    · by_cases c1 : i < a.size + 1
      · obtain ⟨k, rfl⟩ : ∃ k, i = k + 1 := ⟨i - 1, by omega⟩
        rw [autoT_a a b k (by omega) hi]
        rcases ha k (by omega) with h | h <;> omega
      · by_cases c2 : i = a.size + 1
        · subst c2; rw [autoT_colon]; decide
        · by_cases c3 : i < a.size + b.size + 2
          · obtain ⟨k, rfl⟩ : ∃ k, i = a.size + 1 + k + 1 := ⟨i - (a.size + 2), by omega⟩
            rw [autoT_b a b k (by omega) hi]
            obtain ⟨r1, r2, _, _⟩ := hr k (by omega)
            exact ⟨r1, r2⟩
          · obtain rfl : i = a.size + b.size + 2 := by omega
            rw [autoT_end]; decide
  have hne : ∀ (k : UInt8), k.toNat < 33 → ∀ i (hi : i < (autoT a b).size), (autoT a b)[i] ≠ k := by
    intro k hk i hi e
    have := (hall i hi).1
    rw [e] at this
    omega
  have hw : ∀ i (hi : i < (autoT a b).size), isW (autoT a b)[i] = false := by
    intro i hi
    have h1 := hne 32 (by decide) i hi
    have h2 := hne 9 (by decide) i hi
    simp [isW, h1, h2]
  exact ⟨by omega, by omega, hw _ _, hw _ _, hne 0 (by decide), hne 10 (by decide), hne 13 (by decide), by rw [autoT_0]; decide, hne 9 (by decide)⟩

theorem autoT_mid (a b : ByteArray) : (autoT a b).extract 1 ((autoT a b).size - 1) = a ++ (⟨#[58]⟩ : ByteArray) ++ b := by
  apply ByteArray.ext
  apply Array.toList_inj.1
  rw [Lib.extract_data, autoT_list, autoT_size]
  have e1 : a.data.toList.length = a.size := rfl
  have e2 : b.data.toList.length = b.size := rfl
  rw [List.drop_succ_cons, List.drop_zero, show a.size + b.size + 3 - 1 - 1 = (a.data.toList ++ 58 :: b.data.toList).length by simp only [List.length_append, List.length_cons]; omega, ← List.cons_append, ← List.append_assoc, List.take_left']
  · simp
  · rfl
end Go.Proofs.YtdnlfdppjfjncaaGreatDoor

/- The HTML of an automatic link. -/
namespace Go.Proofs.YtdnlfdppjfjncaaGreatDoor
open Go Go.RowKit Go.Proofs

theorem parser_Parse_auto (pp : Nat) (s : ByteArray) (m : Nat) (w : World) (hs : OneLn s) (hU : Uri s m) (all : List Pc) (hg : Plan s 0 0 all) (hO : Off w pp) :
    Calls Tryz.prog 39 #[.pointer (some ⟨pp, 0, none⟩), .string s] w fun e w' => ∃ bp rk, e = .returned (.pointer (some ⟨rk, 0, none⟩)) ∧ DocAt w w' bp rk pp s all := by
  go_enter Tryz.func39, Tryz.ntmps39
  go_wp2_with fail
  refine (parse_auto pp s m w hs hU all hg hO).mono ?_
  rintro e w' ⟨bp, rk, c, rfl, hD⟩
  go_wp2_with fail
  go_ret
  exact ⟨bp, rk, rfl, hD⟩

def autoM (a b : ByteArray) : ByteArray := a ++ (⟨#[58]⟩ : ByteArray) ++ b
theorem autoM_size (a b : ByteArray) : (autoM a b).size = a.size + b.size + 1 := by
  simp only [autoM, ByteArray.size_append]
  show a.size + 1 + b.size = _
  omega
def autoH (m : ByteArray) : ByteArray := ⟨(pOpen ++ [Pc.auto m m].flatMap outPc ++ pClose).toArray⟩

theorem html_auto (a b : ByteArray) (w : World) (h2 : 2 ≤ a.size) (h32 : a.size ≤ 32) (hb : b.size ≤ 60) (ha : ∀ j (h : j < a.size), Ltr a[j]) (hr : RestOk b) :
    Calls Tryz.prog 17 #[.agg #[.bool false, .bool false, .bool false, .bool false, .bool false, .bool false, .bool false, .bool false, .bool false, .bool false], .string (autoT a b)] w fun e w' => e = .returned (.string (autoH (autoM a b))) ∧ Same w w' := by
  have hU := autoT_uri a b h2 h32 hb ha hr
  have hL := autoT_line a b h2 h32 hb ha hr
  have hP := plan_auto _ _ hU
  have hm : (autoT a b).extract 1 ((autoT a b).size - 1) = autoM a b := autoT_mid a b
  rw [hm] at hP
  have hz := autoM_size a b
  have hlen := autoOut_len (autoM a b) (autoM a b)
  refine impl_HTML_of (autoT a b) w (by have := hL.small; omega) [.auto (autoM a b) (autoM a b)] (fun pp w1 hO => parser_Parse_auto pp _ _ w1 hL hU _ hP hO) ?_ ?_ ?_
  · intro i
    cases i with
    | zero => simp [pOpen]
    | succ i =>
      simp only [List.take_succ_cons, List.flatMap_cons, List.length_append, List.take_nil, List.flatMap_nil, outPc, pOpen, List.length_cons, List.length_nil]
      omega
  · rintro t (h | h | h) <;> simp at h
  · intro t u h
    have h1 : t = autoM a b ∧ u = autoM a b := by simpa using h
    obtain ⟨rfl, rfl⟩ := h1
    omega
end Go.Proofs.YtdnlfdppjfjncaaGreatDoor

/- only: a law's own function over an alphabet. -/
namespace Go.Proofs.YtdnlfdppjfjncaaGreatDoor
open Go Go.RowKit Go.Proofs

theorem ixB (s : ByteArray) (c : UInt8) (w : World) : Calls Tryz.prog 36 #[.string s, .int .u8 c.toNat] w fun e w' => e = .returned (.int .i64 (Lib.indexByte s.data.toList c)) ∧ w = w' := by
  refine (Tryz.strings_IndexByte s c.toNat w).mono ?_
  rintro e w' ⟨rfl, rfl⟩
  refine ⟨?_, rfl⟩
  rw [Int.toNat_natCast]
  congr 4
  simp

/-- Every byte from i on is one of the alphabet's. -/
def onF (s A : ByteArray) (i : Nat) : Bool := if h : i < s.size then (!decide (Lib.indexByte A.data.toList s[i] < 0) && onF s A (i + 1)) else true
termination_by s.size - i

theorem onF_get (s A : ByteArray) : ∀ (n i : Nat), s.size - i = n → onF s A i = true → ∀ j (hj : j < s.size), i ≤ j → ¬ Lib.indexByte A.data.toList s[j] < 0
  | 0, i, hn, _, j, hj, hij => by omega
  | n + 1, i, hn, hp, j, hj, hij => by
    have hi : i < s.size := by omega
    rw [onF, dif_pos hi, Bool.and_eq_true] at hp
    by_cases he : i = j
    · subst he
      simpa using hp.1
    · exact onF_get s A n (i + 1) (by omega) hp.2 j hj (by omega)

set_option maxHeartbeats 4000000 in
theorem only_any (s A : ByteArray) (n : Nat) (w : World) (hs : s.size ≤ n) (hn : n ≤ 100000) :
    Calls Tryz.prog 15 #[.string s, .string A, .int .i64 n] w fun e w' => e = .returned (.bool (onF s A 0)) ∧ w = w' := by
  have w0 : ¬ ((n : Int) < s.size) := by omega
  go_enter Tryz.func15, Tryz.ntmps15
  go_wp2_with fail
  go_loopg [7, 14] s.size (fun k u v wr => ∃ i : Nat, (i = 0 → u = undef) ∧ v = .int .i64 i ∧ k = s.size - i ∧ i ≤ s.size ∧ onF s A i = onF s A 0 ∧ w = wr)
  case atStart => exact ⟨0, fun _ => rfl, rfl, rfl, Nat.zero_le _, rfl, rfl⟩
  case round =>
    obtain ⟨i, _, rfl, rfl, hi, hp, rfl⟩ := hrel
    have HP := Lib.hid hp
    clear hp
    by_cases hlt : i < s.size
    · have w1 : (i : Int) < s.size := by omega
      have w2 : (0 : Int) ≤ i := by omega
      have w3 : IntKind.i64.wrap ((i : Int) + 1) = (i : Int) + 1 := IntWalk.i64_in _ (by omega)
      have hun : onF s A i = (!decide (Lib.indexByte A.data.toList s[i] < 0) && onF s A (i + 1)) := by rw [onF, dif_pos hlt]
      have HU := Lib.hid hun
      clear hun
      go_wp2_with fail
      refine (ixB A s[i] w).mono ?_
      rintro e w' ⟨rfl, rfl⟩
      by_cases hc : Lib.indexByte A.data.toList s[i] < 0
      · have hf : onF s A 0 = false := by rw [← HP.out, HU.out]; simp [hc]
        have HF := Lib.hid hf
        clear hf
        go_wp2_with fail
        go_ret
        exact ⟨by rw [HF.out]; rfl, rfl⟩
      · have Hc := Lib.hid hc
        go_wp2_with fail
        go_roundg (s.size - (i + 1))
        case measure => omega
        case rel => exact ⟨i + 1, fun h => absurd h (by omega), by simp, rfl, by omega, by rw [← HP.out, HU.out]; simp [Hc.out], rfl⟩
    · have hin : i = s.size := by omega
      have w1 : ¬ ((i : Int) < s.size) := by omega
      have ht : onF s A 0 = true := by rw [← HP.out, hin, onF, dif_neg (Nat.lt_irrefl _)]
      have HT := Lib.hid ht
      clear ht
      go_wp2_with fail
      go_ret
      exact ⟨by rw [HT.out]; rfl, rfl⟩

set_option maxHeartbeats 4000000 in
theorem only_big (s A : ByteArray) (n : Nat) (w : World) (hs : n < s.size) (_hs2 : s.size ≤ 2147483647) :
    Calls Tryz.prog 15 #[.string s, .string A, .int .i64 n] w fun e w' => e = .returned (.bool false) ∧ w = w' := by
  have w0 : (n : Int) < s.size := by omega
  go_enter Tryz.func15, Tryz.ntmps15
  go_wp2_with fail
  go_ret
  exact ⟨rfl, rfl⟩
end Go.Proofs.YtdnlfdppjfjncaaGreatDoor

/- FnAutolink answers true. -/
namespace Go.Proofs.YtdnlfdppjfjncaaGreatDoor
open Go Go.RowKit Go.Proofs

def abcA : ByteArray := ⟨#[97, 98, 99, 100, 101, 102, 103, 104, 105, 106, 107, 108, 109, 110, 111, 112, 113, 114, 115, 116, 117, 118, 119, 120, 121, 122, 65, 66, 67, 68, 69, 70, 71, 72, 73, 74, 75, 76, 77, 78, 79, 80, 81, 82, 83, 84, 85, 86, 87, 88, 89, 90]⟩
set_option maxRecDepth 100000 in
theorem abcA_all : ∀ c : UInt8, ¬ Lib.indexByte abcA.data.toList c < 0 → Ltr c := by
  have h : ∀ n : Fin 256, ¬ Lib.indexByte abcA.data.toList (UInt8.ofNat n.1) < 0 → (65 ≤ n.1 ∧ n.1 ≤ 90) ∨ (97 ≤ n.1 ∧ n.1 ≤ 122) := by decide +kernel
  intro c hc
  have := h ⟨c.toNat, c.toNat_lt⟩ (by simpa using hc)
  exact this

theorem auto_want (m : ByteArray) (hs : ∀ c ∈ m.data.toList, 33 ≤ c.toNat ∧ c.toNat ≤ 126 ∧ c.toNat ≠ 60 ∧ c.toNat ≠ 62) :
    (⟨#[60, 112, 62, 60, 97, 32, 104, 114, 101, 102, 61, 34]⟩ : ByteArray) ++ strL (escUN m m.size) ++ (⟨#[34, 62]⟩ : ByteArray) ++ strL (m.data.toList.flatMap escB) ++ (⟨#[60, 47, 97, 62, 60, 47, 112, 62, 10]⟩ : ByteArray) = autoH m := by
  have e1 : escUN m m.size = lkN linkTab m m.size := by
    rw [lkN_all, link_same hs]
    unfold escUN
    have : m.size = m.data.toList.length := rfl
    rw [this, List.take_length]
  have e2 : escN m m.size = m.data.toList.flatMap escB := by
    unfold escN
    have : m.size = m.data.toList.length := rfl
    rw [this, List.take_length]
  apply ByteArray.ext
  simp [autoH, strL, e1, e2, outPc, autoOut, pOpen, pClose]

theorem auto_bytes (a b : ByteArray) (ha : ∀ j (h : j < a.size), Ltr a[j]) (hr : RestOk b) : ∀ c ∈ (autoM a b).data.toList, 33 ≤ c.toNat ∧ c.toNat ≤ 126 ∧ c.toNat ≠ 60 ∧ c.toNat ≠ 62 := by
  intro c hc
  have hd : (autoM a b).data.toList = a.data.toList ++ (58 :: b.data.toList) := by simp [autoM]
  rw [hd] at hc
  rcases List.mem_append.1 hc with h | h
  · obtain ⟨i, hi, rfl⟩ := mem_get h
    rcases ha i hi with x | x <;> omega
  · rcases List.mem_cons.1 h with rfl | h
    · decide
    · obtain ⟨i, hi, rfl⟩ := mem_get h
      exact hr i hi

set_option maxHeartbeats 8000000 in
theorem law_autolink (a b : ByteArray) (w : World) :
    Calls Tryz.prog 3 #[.string a, .string b] w fun e w' => e = .returned (.bool true) ∧ Same w w' := by
  by_cases hbig : 2147483647 < a.size
  · have w0 : (2147483647 : Int) < a.size := by omega
    go_enter Tryz.func3, Tryz.ntmps3
    go_wp2_with fail
    go_ret
    exact ⟨rfl, Mods.refl _ _⟩
  · have w0 : ¬ (2147483647 : Int) < a.size := by omega
    by_cases hbig2 : 2147483647 < b.size
    · have w1 : (2147483647 : Int) < b.size := by omega
      go_enter Tryz.func3, Tryz.ntmps3
      go_wp2_with fail
      go_ret
      exact ⟨rfl, Mods.refl _ _⟩
    · have w1 : ¬ (2147483647 : Int) < b.size := by omega
      by_cases h32 : 32 < a.size
      · go_enter Tryz.func3, Tryz.ntmps3
        go_wp2_with fail
        refine (only_big a _ 32 w h32 (by omega)).mono ?_
        rintro e w' ⟨rfl, rfl⟩
        go_wp2_with fail
        go_ret
        exact ⟨rfl, Mods.refl _ _⟩
      · cases hon : onF a abcA 0 with
        | false =>
          go_enter Tryz.func3, Tryz.ntmps3
          go_wp2_with fail
          refine (only_any a abcA 32 w (by omega) (by omega)).mono ?_
          rintro e w' ⟨rfl, rfl⟩
          rw [hon]
          go_wp2_with fail
          go_ret
          exact ⟨rfl, Mods.refl _ _⟩
        | true =>
          by_cases h2 : a.size < 2
          · have w2 : (a.size : Int) < 2 := by omega
            go_enter Tryz.func3, Tryz.ntmps3
            go_wp2_with fail
            refine (only_any a abcA 32 w (by omega) (by omega)).mono ?_
            rintro e w' ⟨rfl, rfl⟩
            rw [hon]
            go_wp2_with fail
            go_ret
            exact ⟨rfl, Mods.refl _ _⟩
          · have w2 : ¬ (a.size : Int) < 2 := by omega
            by_cases hp : (decide (b.size ≤ 60) && prFrom b 0) = true
            · have hs : b.size ≤ 60 := by simp at hp; exact hp.1
              have hpr : prFrom b 0 = true := by simp at hp; exact hp.2
              have ha : ∀ j (h : j < a.size), Ltr a[j] := fun j hj => abcA_all _ (onF_get a abcA _ 0 rfl hon j hj (Nat.zero_le _))
              have HA := Lib.hid ha
              have hby := pr_of_prFrom b _ 0 rfl hpr
              have HBY := Lib.hid hby
              clear ha hby hpr
              go_enter Tryz.func3, Tryz.ntmps3
              go_wp2_with fail
              refine (only_any a abcA 32 w (by omega) (by omega)).mono ?_
              rintro e w' ⟨rfl, rfl⟩
              rw [hon]
              go_wp2_with fail
              refine (printable_any b 60 w (by omega)).mono ?_
              rintro e w' ⟨rfl, rfl⟩
              rw [hp]
              go_wp2_with fail
              clear hon hp
              go_loopg [5, 30] b.size (fun k u v wr => ∃ i : Nat, (i = 0 → u = undef) ∧ v = .int .i64 i ∧ k = b.size - i ∧ i ≤ b.size ∧ (∀ j (hj : j < b.size), j < i → b[j].toNat ≠ 32 ∧ b[j].toNat ≠ 60 ∧ b[j].toNat ≠ 62) ∧ w = wr)
              case atStart => exact ⟨0, fun _ => rfl, rfl, rfl, Nat.zero_le _, fun j _ h => absurd h (Nat.not_lt_zero _), rfl⟩
              case round =>
                obtain ⟨i, _, rfl, rfl, hi, hno, rfl⟩ := hrel
                have HN := Lib.hid hno
                clear hno
                by_cases hlt : i < b.size
                · have v1 : (i : Int) < b.size := by omega
                  have v2 : (0 : Int) ≤ i := by omega
                  have v3 : IntKind.i64.wrap ((i : Int) + 1) = (i : Int) + 1 := IntWalk.i64_in _ (by omega)
                  by_cases c1 : b[i].toNat = 32
                  · have d1 : ((b[i].toNat : Int) == 32) = true := by rw [c1]; rfl
                    clear c1
                    go_wp2_with fail
                    go_ret
                    exact ⟨rfl, Mods.refl _ _⟩
                  · have d1 : ((b[i].toNat : Int) == 32) = false := beq_eq_false_iff_ne.2 (fun he => c1 (by omega))
                    by_cases c2 : b[i].toNat = 60
                    · have d2 : ((b[i].toNat : Int) == 60) = true := by rw [c2]; rfl
                      clear c1 c2
                      go_wp2_with fail
                      go_ret
                      exact ⟨rfl, Mods.refl _ _⟩
                    · have d2 : ((b[i].toNat : Int) == 60) = false := beq_eq_false_iff_ne.2 (fun he => c2 (by omega))
                      by_cases c3 : b[i].toNat = 62
                      · have d3 : ((b[i].toNat : Int) == 62) = true := by rw [c3]; rfl
                        clear c1 c2 c3
                        go_wp2_with fail
                        go_ret
                        exact ⟨rfl, Mods.refl _ _⟩
                      · have d3 : ((b[i].toNat : Int) == 62) = false := beq_eq_false_iff_ne.2 (fun he => c3 (by omega))
                        have HC : Hid (b[i].toNat ≠ 32 ∧ b[i].toNat ≠ 60 ∧ b[i].toNat ≠ 62) := Lib.hid ⟨c1, c2, c3⟩
                        clear c1 c2 c3
                        go_wp2_with fail
                        go_roundg (b.size - (i + 1))
                        case measure => omega
                        case rel => exact ⟨i + 1, fun h => absurd h (by omega), by simp, rfl, by omega, fun j hj h => by
                          by_cases he : j = i
                          · subst he; exact HC.out
                          · exact HN.out j hj (by omega), rfl⟩
                · have v1 : ¬ (i : Int) < b.size := by omega
                  have hr : RestOk b := fun j hj => by
                    obtain ⟨x1, x2, x3⟩ := HN.out j hj (by omega)
                    have y := HBY.out j hj (Nat.zero_le _)
                    have y1 := y.1
                    have y2 := y.2
                    exact ⟨by omega, by omega, x2, x3⟩
                  have HR := Lib.hid hr
                  have hz := autoM_size a b
                  have HWT := Lib.hid (auto_want (autoM a b) (auto_bytes a b HA.out hr))
                  have hb1 := escUN_len (autoM a b) (autoM a b).size (Nat.le_refl _)
                  have hb2 := escB_len (autoM a b).data.toList
                  have e0 : (autoM a b).data.toList.length = (autoM a b).size := rfl
                  have hb3 := strL_size (escUN (autoM a b) (autoM a b).size)
                  have hb4 := strL_size ((autoM a b).data.toList.flatMap escB)
                  have hb5 : (strL (escUN (autoM a b) (autoM a b).size)).size ≤ 500 := by omega
                  have hb6 : (strL ((autoM a b).data.toList.flatMap escB)).size ≤ 600 := by omega
                  have HM : Hid (a ++ (⟨#[58]⟩ : ByteArray) ++ b = autoM a b) := rfl
                  have HT : Hid ((⟨#[60]⟩ : ByteArray) ++ autoM a b ++ (⟨#[62]⟩ : ByteArray) = autoT a b) := rfl
                  have hz9 : (autoM a b).size ≤ 93 := by omega
                  clear hr hb1 hb2 e0 hb3 hb4 hz
                  go_wp2_with fail
                  rw [HM.out, HT.out]
                  refine (html_auto a b w (by omega) (by omega) (by omega) HA.out HR.out).mono ?_
                  rintro e w1 ⟨rfl, hm1⟩
                  go_wp2_with fail
                  refine (EscapeURL_any (autoM a b) w1 (by omega)).mono ?_
                  rintro e w2 ⟨rfl, hm2⟩
                  go_wp2_with fail
                  refine (EscapeHTML_any (autoM a b) w2 (by omega)).mono ?_
                  rintro e w' ⟨rfl, rfl⟩
                  go_wp2_with fail
                  go_ret
                  refine ⟨congrArg (fun b => Ending.returned (.bool b)) ?_, hm1.trans hm2⟩
                  rw [HWT.out]
                  simp
            · have hp' : (decide (b.size ≤ 60) && prFrom b 0) = false := by simpa using hp
              go_enter Tryz.func3, Tryz.ntmps3
              go_wp2_with fail
              refine (only_any a abcA 32 w (by omega) (by omega)).mono ?_
              rintro e w' ⟨rfl, rfl⟩
              rw [hon]
              go_wp2_with fail
              refine (printable_any b 60 w (by omega)).mono ?_
              rintro e w' ⟨rfl, rfl⟩
              rw [hp']
              go_wp2_with fail
              go_ret
              exact ⟨rfl, Mods.refl _ _⟩
end Go.Proofs.YtdnlfdppjfjncaaGreatDoor

/- A start that meets the rows' condition on the listed variables: the heap that the start-up leaves, the pinned table laid. -/
namespace Go.Proofs.YtdnlfdppjfjncaaGreatDoor
open Go Go.ChangeShapes Go.WideShapes Go.ChangeAt Go.RowKit

theorem knob : ownKnob Tryz.prog.godebug = none := by kernel_rfl

def laid8 : List (String × DataW Unit) := Rows.fnEscapedRow.laid

/-- The start. -/
noncomputable def laidW (os : Os) : World :=
  let w0 := World.doorLaid Tryz.prog 4000 os
  { w0 with heap := w0.heap.modify 2 fun
      | .cells _ t frozen => .cells (Pinned.utf8FirstZ.map fun z => Value.int .u8 (z : Nat)).toArray t frozen
      | o => o }
theorem laidW_met (os : Os) (args : Array Value) : laidMetH Tryz.prog laid8 ((laidW os).forCall (fun _ _ => 0) ⟨#[], args, []⟩).memory :=
  laidMetH_of_parts3 (fuel := 8) (laidMet_of_run' 8 (by kernel_rfl) (by kernel_rfl)) (by kernel_rfl) (by kernel_rfl)

theorem Mods.kept {S : Nat → Prop} {w w' : World} (h : Mods S w w') (hS : ∀ k, ¬ S k) (may : MemPlace → Prop) : w.keptBut w' may := by
  refine ⟨h.os, h.output, fun i hi => ?_⟩
  rw [h.block i hi (hS i)]
  cases w.heap[i]? with
  | none => rfl
  | some o =>
    cases o with
    | cells c t fr => exact ⟨rfl, rfl, rfl, fun _ _ => rfl⟩
    | map es ck => exact Or.inr ⟨rfl, rfl⟩
    | _ => rfl
end Go.Proofs.YtdnlfdppjfjncaaGreatDoor
