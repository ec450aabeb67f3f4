/- Some texts of one proof, put into one file: PlanM, LawL, LawM, Tag7, Tag8, Tag9. -/
import Derived.Test.YtdnlfdppjfjncaaGreatDoorAu9
import Derived.Test.YtdnlfdppjfjncaaGreatDoorOt2
import Derived.Test.YtdnlfdppjfjncaaGreatDoorOt3
/- A plan for a text with signs behind backslashes and line feeds; what its pieces print. -/
namespace Go.Proofs.YtdnlfdppjfjncaaGreatDoor
open Go Go.RowKit Go.Proofs

/-- The pieces are no longer than the text, and none is a link. -/
structure Fit (s : ByteArray) (all : List Pc) : Prop where
  sz : ∀ u, Pc.plain u ∈ all ∨ Pc.esc u ∈ all ∨ Pc.tag u ∈ all → u.size ≤ s.size
  au : ∀ t u, Pc.auto t u ∉ all

theorem Fit.nil (s : ByteArray) : Fit s [] := ⟨fun u h => by simp at h, fun _ _ h => by simp at h⟩
theorem Fit.app {s : ByteArray} {a b : List Pc} (h1 : Fit s a) (h2 : Fit s b) : Fit s (a ++ b) := by
  refine ⟨fun u h => ?_, fun t u h => ?_⟩
  · simp only [List.mem_append] at h
    rcases h with (h | h) | (h | h) | (h | h)
    · exact h1.sz u (Or.inl h)
    · exact h2.sz u (Or.inl h)
    · exact h1.sz u (Or.inr (Or.inl h))
    · exact h2.sz u (Or.inr (Or.inl h))
    · exact h1.sz u (Or.inr (Or.inr h))
    · exact h2.sz u (Or.inr (Or.inr h))
  · rcases List.mem_append.1 h with h | h
    · exact h1.au t u h
    · exact h2.au t u h
theorem Fit.cut (s : ByteArray) (e k : Nat) : Fit s (if e < k then [.plain (s.extract e k)] else []) := by
  split
  · refine ⟨fun u h => ?_, fun _ _ h => by simp at h⟩
    have : u = s.extract e k := by simpa using h
    subst this
    rw [ByteArray.size_extract]; omega
  · exact Fit.nil s
theorem Fit.esc (s : ByteArray) (i j : Nat) : Fit s [.esc (s.extract i j)] := by
  refine ⟨fun u h => ?_, fun _ _ h => by simp at h⟩
  have : u = s.extract i j := by simpa using h
  subst this
  rw [ByteArray.size_extract]; omega
theorem Fit.soft (s : ByteArray) : Fit s [.soft] := ⟨fun u h => by simp at h, fun _ _ h => by simp at h⟩

theorem cut_out (s : ByteArray) {e k : Nat} (he : e ≤ k) : (if e < k then [Pc.plain (s.extract e k)] else []).flatMap outPc = (s.extract e k).data.toList.flatMap escB := by
  by_cases hlt : e < k
  · rw [if_pos hlt]
    simp only [List.flatMap_cons, List.flatMap_nil, out_plain, List.append_nil]
  · rw [if_neg hlt]
    have : e = k := by omega
    rw [this, ext_none]
    rfl

/-- No white space stands beside a line feed. -/
def NoW (s : ByteArray) : Prop := ∀ k (h : k < s.size), s[k] = 10 → 0 < k ∧ ∃ h' : k + 1 < s.size, isW (s[k - 1]'(by omega)) = false ∧ isW s[k + 1] = false

theorem plan_sl (s : ByteArray) (hs : s.size ≤ 1000000) (hW : NoW s) : ∀ (l : List UInt8) (k e : Nat), e ≤ k → k ≤ s.size → (∀ c ∈ l, Pr c ∨ c = 10) → from_ s k = slL l →
    ∃ all, Plan s k e all ∧ all.flatMap outPc = (s.extract e k).data.toList.flatMap escB ++ l.flatMap escB ∧ Fit s all
  | [], k, e, he, hk, _, h => by
    have hke := from_nil hk h
    subst hke
    exact ⟨_, Plan.fin e, by rw [cut_out s he]; simp, Fit.cut s e s.size⟩
  | c :: l, k, e, he, hk, hp, h => by
    have hp2 : ∀ x ∈ l, Pr x ∨ x = 10 := fun x hx => hp x (List.mem_cons_of_mem _ hx)
    rw [sl_cons] at h
    unfold slB at h
    by_cases hc : punct c = true
    · rw [if_pos hc] at h
      obtain ⟨h1, e1, h2⟩ := from_cons h
      obtain ⟨h3, e3, h4⟩ := from_cons h2
      obtain ⟨r, r1, r2, r3⟩ := plan_sl s hs hW l (k + 2) (k + 2) (Nat.le_refl _) (by omega) hp2 h4
      refine ⟨_, Plan.piece h1 _ (Or.inl ⟨e1, rfl⟩) _ k (k + 2) he (Nat.le_refl _) (by omega) (by omega) (esc_call s k h3 hs (by rw [e3]; exact hc)) (fun _ h => by cases h) r1, ?_, ?_⟩
      · have hx : (s.extract (k + 1) (k + 2)).data.toList = [c] := by rw [ext1 s (k + 1) h3, e3]
        rw [List.flatMap_append, cut_out s he, List.flatMap_cons, r2, ext_none, out_esc, hx]
        simp only [List.flatMap_cons, List.flatMap_nil, List.append_nil, List.nil_append]
      · exact (Fit.cut s e k).app ((Fit.esc s (k + 1) (k + 2)).app r3)
    · rw [if_neg hc] at h
      obtain ⟨h1, e1, h2⟩ := from_cons h
      by_cases h10 : c = 10
      · obtain ⟨w1, w2, w3, w4⟩ := hW k h1 (by rw [e1]; exact h10)
        obtain ⟨r, r1, r2, r3⟩ := plan_sl s hs hW l (k + 1) (k + 1) (Nat.le_refl _) (by omega) hp2 h2
        refine ⟨_, Plan.piece h1 _ (Or.inr (Or.inr ⟨by rw [e1]; exact h10, rfl⟩)) _ k (k + 1) he (Nat.le_refl _) (by omega) (by omega) (soft_call s k w1 w2 hs w3 w4) (fun _ h => by cases h) r1, ?_, ?_⟩
        · rw [List.flatMap_append, cut_out s he, List.flatMap_cons, r2, ext_none, List.flatMap_cons, h10]
          rfl
        · exact (Fit.cut s e k).app ((Fit.soft s).app r3)
      · have hpr : Pr c := (hp c List.mem_cons_self).resolve_right h10
        obtain ⟨r, r1, r2, r3⟩ := plan_sl s hs hW l (k + 1) e (by omega) (by omega) hp2 h2
        refine ⟨r, Plan.dull h1 (by rw [e1]; exact dull_of hpr (by simpa using hc)) r1, ?_, r3⟩
        rw [r2, ext_snoc he h1, e1]
        simp only [List.flatMap_append, List.flatMap_cons, List.flatMap_nil, List.append_nil, List.append_assoc]
end Go.Proofs.YtdnlfdppjfjncaaGreatDoor

/- FnLiteralLines: the law's own functions over lines: zzFits2, joined. -/
namespace Go.Proofs.YtdnlfdppjfjncaaGreatDoor
open Go Go.RowKit Go.Proofs

/-- A slice of strings stands in the world. -/
def StrsAt (w : World) (v : Value) (ls : List ByteArray) : Prop :=
  (v = .slice none 0 0 ∧ ls = []) ∨ ∃ a cap, v = .slice (some a) ls.length cap ∧ ∀ i x, ls[i]? = some x → w.cell? (a.add i) = some (.string x)

theorem StrsAt.form {w : World} {v : Value} {ls : List ByteArray} (h : StrsAt w v ls) : ∃ a cap, v = .slice a ls.length cap := by
  rcases h with ⟨h1, h2⟩ | ⟨a, cap, h1, _⟩
  · subst h2
    exact ⟨none, 0, h1⟩
  · exact ⟨_, _, h1⟩
theorem StrsAt.some {w : World} {v : Value} {ls : List ByteArray} (h : StrsAt w v ls) (hl : ls ≠ []) : ∃ a cap, v = .slice (some a) ls.length cap ∧ ∀ i x, ls[i]? = some x → w.cell? (a.add i) = some (.string x) := by
  rcases h with ⟨h1, h2⟩ | h
  · exact absurd h2 hl
  · exact h

def fitsB (ls : List ByteArray) : Bool := decide (ls.length ≤ 2147483647) && ls.all (fun l => decide (l.size ≤ 2147483647))
theorem fitsB_of {ls : List ByteArray} (h1 : ls.length ≤ 2147483647) (h2 : ∀ l ∈ ls, l.size ≤ 2147483647) : fitsB ls = true := by
  simp only [fitsB, Bool.and_eq_true, decide_eq_true_eq, List.all_eq_true]
  exact ⟨h1, h2⟩
theorem fitsB_len {ls : List ByteArray} (h1 : 2147483647 < ls.length) : fitsB ls = false := by
  have : ¬ (ls.length ≤ 2147483647) := by omega
  simp only [fitsB, decide_eq_false this, Bool.false_and]
theorem fitsB_big {ls : List ByteArray} {l : ByteArray} (hl : l ∈ ls) (h1 : 2147483647 < l.size) : fitsB ls = false := by
  rw [Bool.eq_false_iff]
  intro h
  simp only [fitsB, Bool.and_eq_true, decide_eq_true_eq, List.all_eq_true] at h
  have := h.2 l hl
  omega
theorem fitsB_out {ls : List ByteArray} (h : fitsB ls = true) : ls.length ≤ 2147483647 ∧ ∀ l ∈ ls, l.size ≤ 2147483647 := by
  simpa only [fitsB, Bool.and_eq_true, decide_eq_true_eq, List.all_eq_true] using h

set_option maxHeartbeats 4000000 in
theorem zzFits2_any (v : Value) (ls : List ByteArray) (w : World) (h : StrsAt w v ls) :
    Calls Tryz.prog 27 #[v] w fun e w' => e = .returned (.bool (fitsB ls)) ∧ w = w' := by
  by_cases hl : ls = []
  · subst hl
    obtain ⟨a, cap, rfl⟩ := h.form
    go_enter Tryz.func27, Tryz.ntmps27
    go_wp2_with fail
    go_loopg [10] 0 (fun k i wr => i = .int .i64 0 ∧ w = wr)
    case atStart => exact ⟨rfl, rfl⟩
    case round =>
      obtain ⟨rfl, rfl⟩ := hrel
      go_wp2_with fail
      go_ret
      exact ⟨rfl, rfl⟩
  · obtain ⟨a, cap, rfl, hc⟩ := h.some hl
    have HC := Lib.hid hc
    clear hc h
    by_cases hbig : 2147483647 < ls.length
    · have w0 : (2147483647 : Int) < ls.length := by omega
      go_enter Tryz.func27, Tryz.ntmps27
      go_wp2_with fail
      go_ret
      exact ⟨by rw [fitsB_len hbig]; rfl, rfl⟩
    · have w0 : ¬ (2147483647 : Int) < ls.length := by omega
      go_enter Tryz.func27, Tryz.ntmps27
      go_wp2_with fail
      go_loopg [10] ls.length (fun k i wr => ∃ j : Nat, k = ls.length - j ∧ j ≤ ls.length ∧ i = .int .i64 j ∧ w = wr ∧ ∀ l ∈ ls.take j, l.size ≤ 2147483647)
      case atStart => exact ⟨0, rfl, Nat.zero_le _, rfl, rfl, fun l h => by simp at h⟩
      case round =>
        obtain ⟨j, rfl, hj, rfl, rfl, hall⟩ := hrel
        by_cases hlt : j < ls.length
        · have w1 : (j : Int) < ls.length := by omega
          have w2 : (0 : Int) ≤ j := by omega
          have w3 : IntKind.i64.wrap ((j : Int) + 1) = (j : Int) + 1 := IntWalk.i64_in _ (by omega)
          obtain ⟨l, hlj⟩ : ∃ l, ls[j]? = some l := ⟨_, List.getElem?_eq_getElem hlt⟩
          have c1 := HC.out j l hlj
          have HJ := Lib.hid hlj
          clear hlj
          by_cases hb : 2147483647 < l.size
          · have v1 : (2147483647 : Int) < l.size := by omega
            go_wp2_with fail
            go_ret
            exact ⟨by rw [fitsB_big (List.mem_of_getElem? HJ.out) hb]; rfl, rfl⟩
          · have v1 : ¬ (2147483647 : Int) < l.size := by omega
            go_wp2_with fail
            go_roundg (ls.length - (j + 1))
            case measure => omega
            case rel =>
              refine ⟨j + 1, rfl, hlt, by rw [Int.natCast_succ], rfl, fun x hx => ?_⟩
              rw [take_succ_get HJ.out] at hx
              rcases List.mem_append.1 hx with hx | hx
              · exact hall x hx
              · have : x = l := by simpa using hx
                subst this
                omega
        · have w1 : ¬ (j : Int) < ls.length := by omega
          have hjl : j = ls.length := by omega
          go_wp2_with fail
          go_ret
          exact ⟨by rw [fitsB_of (by omega) (fun x hx => hall x (by rw [hjl, List.take_length]; exact hx))]; rfl, rfl⟩

theorem joinT_nil : joinT [] = ByteArray.empty := by simp [joinT, Lib.join]; rfl
theorem joinT_snocL : ∀ (x : ByteArray) (xs : List ByteArray) (l : ByteArray), (joinT ((x :: xs) ++ [l])).data.toList = (joinT (x :: xs)).data.toList ++ 10 :: l.data.toList
  | x, [], l => by
    rw [List.cons_append, List.nil_append, joinT_cons2, joinT_one, joinT_one]
  | x, y :: r, l => by
    rw [List.cons_append, List.cons_append, joinT_cons2, ← List.cons_append, joinT_snocL y r l, joinT_cons2]
    simp
theorem joinT_snoc {xs : List ByteArray} (h : xs ≠ []) (l : ByteArray) : joinT xs ++ (⟨#[10]⟩ : ByteArray) ++ l = joinT (xs ++ [l]) := by
  cases xs with
  | nil => exact absurd rfl h
  | cons x r =>
    have := joinT_snocL x r l
    apply ByteArray.ext
    apply Array.toList_inj.1
    rw [this]
    simp
theorem joinT_take_le : ∀ (ls : List ByteArray) (j : Nat), (joinT (ls.take j)).size ≤ (joinT ls).size
  | [], j => by rw [List.take_nil]; exact Nat.le_refl _
  | x :: r, 0 => by
    rw [List.take_zero, joinT_nil]
    exact Nat.zero_le _
  | [x], j + 1 => by rw [List.take_succ_cons, List.take_nil]; exact Nat.le_refl _
  | x :: y :: r, 1 => by
    rw [List.take_succ_cons, List.take_zero, joinT_one, joinT_size2]; omega
  | x :: y :: r, j + 2 => by
    have := joinT_take_le (y :: r) (j + 1)
    rw [List.take_succ_cons] at this
    rw [List.take_succ_cons, List.take_succ_cons, joinT_size2, joinT_size2]; omega

set_option maxHeartbeats 4000000 in
theorem joined_any (v : Value) (ls : List ByteArray) (w : World) (h : StrsAt w v ls) (hn : ls.length ≤ 1000) (hs : (joinT ls).size ≤ 1000000) :
    Calls Tryz.prog 32 #[v, .string ⟨#[10]⟩] w fun e w' => e = .returned (.string (joinT ls)) ∧ w = w' := by
  by_cases hl : ls = []
  · subst hl
    obtain ⟨a, cap, rfl⟩ := h.form
    go_enter Tryz.func32, Tryz.ntmps32
    go_wp2_with fail
    go_loopg [5, 10] 0 (fun k v i wr => v = .string ByteArray.empty ∧ i = .int .i64 0 ∧ w = wr)
    case atStart => exact ⟨rfl, rfl, rfl⟩
    case round =>
      obtain ⟨rfl, rfl, rfl⟩ := hrel
      go_wp2_with fail
      go_ret
      exact ⟨by rw [joinT_nil]; rfl, rfl⟩
  · obtain ⟨a, cap, rfl, hc⟩ := h.some hl
    have HC := Lib.hid hc
    clear hc h
    go_enter Tryz.func32, Tryz.ntmps32
    go_wp2_with fail
    go_loopg [5, 10] ls.length (fun k v i wr => ∃ j : Nat, k = ls.length - j ∧ j ≤ ls.length ∧ v = .string (joinT (ls.take j)) ∧ i = .int .i64 j ∧ w = wr)
    case atStart => exact ⟨0, rfl, Nat.zero_le _, by rw [List.take_zero, joinT_nil]; rfl, rfl, rfl⟩
    case round =>
      obtain ⟨j, rfl, hj, rfl, rfl, rfl⟩ := hrel
      by_cases hlt : j < ls.length
      · have w1 : (j : Int) < ls.length := by omega
        have w2 : (0 : Int) ≤ j := by omega
        have w3 : IntKind.i64.wrap ((j : Int) + 1) = (j : Int) + 1 := IntWalk.i64_in _ (by omega)
        obtain ⟨l, hlj⟩ : ∃ l, ls[j]? = some l := ⟨_, List.getElem?_eq_getElem hlt⟩
        have c1 := HC.out j l hlj
        have HJ := Lib.hid hlj
        have b1 : (joinT (ls.take j)).size ≤ 1000000 := Nat.le_trans (joinT_take_le ls j) hs
        have b2 : l.size ≤ 1000000 := Nat.le_trans (joinT_le ls l (List.mem_of_getElem? hlj)) hs
        have b3 : (joinT (ls.take j) ++ (⟨#[10]⟩ : ByteArray)).size ≤ 1000001 := by
          rw [ByteArray.size_append]
          show _ + 1 ≤ _
          omega
        clear hlj
        by_cases hj0 : 0 < j
        · have v1 : (0 : Int) < j := by omega
          have hne : ls.take j ≠ [] := by
            intro h
            have := congrArg List.length h
            rw [List.length_take, List.length_nil] at this
            omega
          have HS := Lib.hid (joinT_snoc hne l)
          clear hne
          go_wp2_with fail
          go_roundg (ls.length - (j + 1))
          case measure => omega
          case rel => exact ⟨j + 1, rfl, hlt, by rw [take_succ_get HJ.out, ← HS.out], by rw [Int.natCast_succ], rfl⟩
        · have v1 : ¬ (0 : Int) < j := by omega
          have hz : j = 0 := by omega
          have HZ := Lib.hid hz
          clear hz
          go_wp2_with fail
          go_roundg (ls.length - (j + 1))
          case measure => omega
          case rel =>
            have hz := HZ.out
            subst hz
            refine ⟨1, rfl, hlt, ?_, rfl, rfl⟩
            rw [take_succ_get HJ.out, List.take_zero, joinT_nil, List.nil_append, joinT_one]
            simp
      · have w1 : ¬ (j : Int) < ls.length := by omega
        have hjl : j = ls.length := by omega
        go_wp2_with fail
        go_ret
        exact ⟨rfl, rfl⟩
end Go.Proofs.YtdnlfdppjfjncaaGreatDoor

/- FnLiteralLines: the plain law of escaped lines. -/
namespace Go.Proofs.YtdnlfdppjfjncaaGreatDoor
open Go Go.RowKit Go.Proofs

/-- A line as the law lets it pass. -/
structure LineOk (t : ByteArray) : Prop where
  full : fillOk t = true
  pr : prFrom t 0 = true
  le : t.size ≤ 200

theorem LineOk.one {t : ByteArray} (h : LineOk t) : OneLine (slT t) := oneLine_sl t h.pr h.full (by have := h.le; omega)

theorem slT_first {t : ByteArray} (h0 : 0 < t.size) (hp : 0 < (slT t).size) : (slT t)[0] = 92 ∨ punct (slT t)[0] = false := by
  obtain ⟨c, l, hcl⟩ : ∃ c l, t.data.toList = c :: l := by
    cases h : t.data.toList with
    | nil => have e1 : t.data.toList.length = t.size := rfl
             rw [h] at e1; simp at e1; omega
    | cons c l => exact ⟨c, l, rfl⟩
  have hg := get_of hp
  rw [slT_list, hcl, sl_cons] at hg
  unfold slB at hg
  by_cases hc : punct c = true
  · rw [if_pos hc] at hg
    exact Or.inl (Option.some.inj hg).symm
  · rw [if_neg hc] at hg
    right
    rw [← (Option.some.inj hg)]
    simpa using hc

theorem LineOk.pos {t : ByteArray} (h : LineOk t) : 0 < t.size := (fill_first h.full).1

theorem LineOk.goes {t : ByteArray} (h : LineOk t) : Goes (slT t) := by
  have ho := h.one
  have hf := slT_first h.pos ho.pos
  have h32 : (slT t)[0]'ho.pos ≠ 32 := by
    intro e
    have := ho.first
    rw [e] at this
    cases this
  have hl : p3 (slT t) 0 = 0 := by
    unfold p3 lead
    rw [dif_pos ho.pos, if_neg h32]
  have ha0 : at0 (slT t) (p3 (slT t) 0) = (slT t)[0]'ho.pos := by rw [hl]; exact at0_eq ho.pos
  have hk : ∀ k : Nat, (punct (UInt8.ofNat k) = true) → UInt8.ofNat k ≠ 92 → k < 256 → (((slT t)[0]'ho.pos).toNat : Int) ≠ k := by
    intro k hp hne hlt e
    have : (slT t)[0]'ho.pos = UInt8.ofNat k := UInt8.toNat_inj.1 (by rw [UInt8.toNat_ofNat']; omega)
    rcases hf with h | h
    · exact hne (this ▸ h)
    · rw [this, hp] at h; cases h
  refine ⟨?_, by rw [ha0]; exact hk 61 (by decide) (by decide) (by decide)⟩
  rcases ho.begins with hP | h7
  · exact hP
  · have h35 : at0 (slT t) (p3 (slT t) 0) = 35 := h7 0 (by omega)
    rw [ha0] at h35
    exact absurd (by rw [h35]; rfl) (hk 35 (by decide) (by decide) (by decide))

theorem LineOk.size {t : ByteArray} (h : LineOk t) : (slT t).size ≤ 400 := by
  have := slT_size t
  have := h.le
  omega

theorem joinT_bound (B : Nat) : ∀ ls : List ByteArray, (∀ l ∈ ls, l.size ≤ B) → (joinT ls).size ≤ ls.length * (B + 1)
  | [], _ => by rw [joinT_nil]; exact Nat.zero_le _
  | [x], h => by
    rw [joinT_one]
    have := h x (by simp)
    simp only [List.length_cons, List.length_nil]
    omega
  | x :: y :: r, h => by
    have h1 := joinT_bound B (y :: r) (fun l hl => h l (List.mem_cons_of_mem _ hl))
    have h2 := h x (by simp)
    rw [joinT_size2, List.length_cons, Nat.add_mul]
    omega

/-- The bytes of the joined text behind a map of each byte. -/
theorem join_flat (f : UInt8 → List UInt8) (g : ByteArray → ByteArray) (h10 : f 10 = [10]) (hg : ∀ l, (g l).data.toList = l.data.toList.flatMap f) : ∀ ls : List ByteArray, (joinT (ls.map g)).data.toList = (joinT ls).data.toList.flatMap f
  | [] => by rw [List.map_nil, joinT_nil]; rfl
  | [x] => by rw [List.map_cons, List.map_nil, joinT_one, joinT_one]; exact hg x
  | x :: y :: r => by
    have h1 := join_flat f g h10 hg (y :: r)
    rw [List.map_cons] at h1
    rw [List.map_cons, List.map_cons, joinT_cons2, h1, hg, joinT_cons2, List.flatMap_append, List.flatMap_cons, h10]
    rfl

/-- A line by its bytes: no line feed; neither end is white space. -/
structure Ends (x : ByteArray) : Prop where
  no : ∀ c ∈ x.data.toList, c ≠ 10
  head : ∃ a r, x.data.toList = a :: r ∧ isW a = false
  last : ∃ m b, x.data.toList = m ++ [b] ∧ isW b = false

theorem Ends.of {x : ByteArray} (h : OneLine x) : Ends x := by
  have hp := h.pos
  have e1 : x.data.toList.length = x.size := rfl
  refine ⟨fun c hc e => ?_, ?_, ?_⟩
  · obtain ⟨k, hk, hk2⟩ := mem_get hc
    exact h.no10 k hk (hk2.trans e)
  · cases hx : x.data.toList with
    | nil => rw [hx] at e1; simp at e1; omega
    | cons a r =>
      have hg := get_of hp
      rw [hx] at hg
      have : x[0] = a := (Option.some.inj hg).symm
      exact ⟨a, r, rfl, by rw [← this]; exact h.first⟩
  · have hne : x.data.toList ≠ [] := by
      intro e
      rw [e] at e1
      simp at e1
      omega
    obtain ⟨m, d, hmd⟩ : ∃ m d, x.data.toList = m ++ [d] := ⟨_, _, (List.dropLast_concat_getLast hne).symm⟩
    have hg := get_of (s := x) (i := x.size - 1) (by omega)
    rw [hmd] at hg e1
    simp at e1
    rw [List.getElem?_append_right (by omega), show x.size - 1 - m.length = 0 by omega] at hg
    have : x[x.size - 1]'(by omega) = d := (Option.some.inj hg).symm
    exact ⟨m, d, hmd, by rw [← this]; exact h.last⟩

theorem joinT_head : ∀ (y : ByteArray) (r : List ByteArray), Ends y → ∃ a q, (joinT (y :: r)).data.toList = a :: q ∧ isW a = false
  | y, [], h => by rw [joinT_one]; exact h.head
  | y, z :: r, h => by
    obtain ⟨a, q, h1, h2⟩ := h.head
    rw [joinT_cons2, h1]
    exact ⟨a, _, rfl, h2⟩
theorem joinT_last : ∀ (y : ByteArray) (r : List ByteArray), (∀ x ∈ y :: r, Ends x) → ∃ m b, (joinT (y :: r)).data.toList = m ++ [b] ∧ isW b = false
  | y, [], h => by rw [joinT_one]; exact (h y (by simp)).last
  | y, z :: r, h => by
    obtain ⟨m, b, h1, h2⟩ := joinT_last z r (fun x hx => h x (List.mem_cons_of_mem _ hx))
    rw [joinT_cons2, h1]
    exact ⟨y.data.toList ++ 10 :: m, b, by simp, h2⟩

theorem joinT_lastB {xs : List ByteArray} (hne : xs ≠ []) (h : ∀ x ∈ xs, Ends x) (hp : 0 < (joinT xs).size) : isW ((joinT xs)[(joinT xs).size - 1]'(by omega)) = false := by
  obtain ⟨y, r, rfl⟩ : ∃ y r, xs = y :: r := by
    cases xs with
    | nil => exact absurd rfl hne
    | cons y r => exact ⟨y, r, rfl⟩
  obtain ⟨m, b, h1, h2⟩ := joinT_last y r h
  have hg := get_of (s := joinT (y :: r)) (i := (joinT (y :: r)).size - 1) (by omega)
  have e1 : (joinT (y :: r)).data.toList.length = (joinT (y :: r)).size := rfl
  rw [h1] at hg e1
  simp at e1
  rw [List.getElem?_append_right (by omega), show (joinT (y :: r)).size - 1 - m.length = 0 by omega] at hg
  rw [← (Option.some.inj hg)]
  exact h2

theorem noW_list : ∀ xs : List ByteArray, (∀ x ∈ xs, Ends x) → ∀ k : Nat, (joinT xs).data.toList[k]? = some 10 → ∃ (q : Nat) (a b : UInt8), k = q + 1 ∧ (joinT xs).data.toList[q]? = some a ∧ (joinT xs).data.toList[k + 1]? = some b ∧ isW a = false ∧ isW b = false
  | [], _, k, hk => by rw [joinT_nil, show ByteArray.empty.data.toList = [] from rfl, List.getElem?_nil] at hk; cases hk
  | [x], h, k, hk => by
    rw [joinT_one] at hk
    exact absurd rfl ((h x (by simp)).no 10 (List.mem_of_getElem? hk))
  | x :: y :: r, h, k, hk => by
    have hx := h x (by simp)
    have hyr : ∀ z ∈ y :: r, Ends z := fun z hz => h z (List.mem_cons_of_mem _ hz)
    rw [joinT_cons2] at hk ⊢
    rcases Nat.lt_trichotomy k x.data.toList.length with hlt | heq | hgt
    · rw [List.getElem?_append_left hlt] at hk
      exact absurd rfl (hx.no 10 (List.mem_of_getElem? hk))
    · obtain ⟨m, b, hm, hb⟩ := hx.last
      obtain ⟨a, q, ha, ha2⟩ := joinT_head y r (hyr y (by simp))
      have hml : x.data.toList.length = m.length + 1 := by rw [hm]; simp
      refine ⟨m.length, b, a, by omega, ?_, ?_, hb, ha2⟩
      · rw [List.getElem?_append_left (by omega), hm]; simp
      · rw [List.getElem?_append_right (by omega), show k + 1 - x.data.toList.length = 1 by omega, ha]; rfl
    · obtain ⟨n, hn⟩ : ∃ n, k = x.data.toList.length + 1 + n := ⟨k - x.data.toList.length - 1, by omega⟩
      rw [List.getElem?_append_right (by omega), show k - x.data.toList.length = n + 1 by omega, List.getElem?_cons_succ] at hk
      obtain ⟨q, a, b, h1, h2, h3, h4, h5⟩ := noW_list (y :: r) hyr n hk
      refine ⟨x.data.toList.length + 1 + q, a, b, by omega, ?_, ?_, h4, h5⟩
      · rw [List.getElem?_append_right (by omega), show x.data.toList.length + 1 + q - x.data.toList.length = q + 1 by omega, List.getElem?_cons_succ]; exact h2
      · rw [List.getElem?_append_right (by omega), show k + 1 - x.data.toList.length = n + 1 + 1 by omega, List.getElem?_cons_succ]; exact h3

theorem noW_joinT (xs : List ByteArray) (h : ∀ x ∈ xs, Ends x) : NoW (joinT xs) := by
  intro k hk h10
  obtain ⟨q, a, b, h1, h2, h3, h4, h5⟩ := noW_list xs h k (by rw [get_of hk, h10])
  have hk1 : k + 1 < (joinT xs).size := (List.getElem?_eq_some_iff.1 h3).1
  have e1 : (joinT xs)[k + 1] = b := Option.some.inj ((get_of hk1).symm.trans h3)
  refine ⟨by omega, hk1, ?_, by rw [e1]; exact h5⟩
  subst h1
  have e2 : (joinT xs)[q + 1 - 1]'(by omega) = a := Option.some.inj ((get_of (s := joinT xs) (i := q + 1 - 1) (by omega)).symm.trans h2)
  rw [e2]
  exact h4

theorem paraText_lines (ls : List ByteArray) (hne : ls ≠ []) (hn : ls.length ≤ 50) (h : ∀ l ∈ ls, LineOk l) : ParaText (ls.map slT) := by
  have hO : ∀ x ∈ ls.map slT, OneLine x := fun x hx => by
    obtain ⟨t, ht, rfl⟩ := List.mem_map.1 hx
    exact (h t ht).one
  have hG : ∀ x ∈ ls.map slT, Goes x := fun x hx => by
    obtain ⟨t, ht, rfl⟩ := List.mem_map.1 hx
    exact (h t ht).goes
  have hb := joinT_bound 400 (ls.map slT) (fun x hx => by
    obtain ⟨t, ht, rfl⟩ := List.mem_map.1 hx
    exact (h t ht).size)
  rw [List.length_map] at hb
  refine ⟨by simpa using hne, by omega, by rw [List.length_map]; omega, fun l hl => (hO l hl).pos, fun l hl _ => (hO l hl).first, fun l hl => (hO l hl).no0, fun l hl => (hO l hl).no10, fun l hl => (hO l hl).no13, fun l hl => (hO l hl).no9, ?_, ?_, ?_, ?_⟩
  · exact joinT_lastB (by simpa using hne) (fun x hx => Ends.of (hO x hx))
  · intro l r hls _
    exact (hO l (by rw [hls]; simp)).no91
  · intro l r hls
    exact (hO l (by rw [hls]; simp)).begins
  · intro l r hls x hx
    exact hG x (by rw [hls]; exact List.mem_cons_of_mem _ hx)

theorem html_lines (ls : List ByteArray) (w : World) (hne : ls ≠ []) (hn : ls.length ≤ 50) (h : ∀ l ∈ ls, LineOk l) :
    Calls Tryz.prog 17 #[.agg #[.bool false, .bool false, .bool false, .bool false, .bool false, .bool false, .bool false, .bool false, .bool false, .bool false], .string (joinT (ls.map slT))] w fun e w' => e = .returned (.string (strL (pOpen ++ (joinT ls).data.toList.flatMap escB ++ pClose))) ∧ Same w w' := by
  have hP := paraText_lines ls hne hn h
  have hsm := hP.small
  have hO : ∀ x ∈ ls.map slT, OneLine x := fun x hx => by
    obtain ⟨t, ht, rfl⟩ := List.mem_map.1 hx
    exact (h t ht).one
  have hb := joinT_bound 200 ls (fun x hx => (h x hx).le)
  have hpr : ∀ c ∈ (joinT ls).data.toList, Pr c ∨ c = 10 := by
    intro c hc
    rcases joinT_mem ls c hc with h1 | ⟨l, hl, h1⟩
    · exact Or.inr h1
    · exact Or.inl (pr_list (h l hl).pr c h1)
  obtain ⟨all, a1, a2, a3⟩ := plan_sl (joinT (ls.map slT)) (by omega) (noW_joinT _ (fun x hx => Ends.of (hO x hx))) (joinT ls).data.toList 0 0 (Nat.le_refl _) (Nat.zero_le _) hpr
    (by rw [from_zero]; exact join_flat slB slT (by decide) (fun l => slT_list l) ls)
  rw [ext_none, List.flatMap_nil, List.nil_append] at a2
  refine (impl_HTML_many (ls.map slT) w hP all a1 ?_ ?_ a3.au).mono ?_
  · intro i
    have h1 : (all.take i).flatMap outPc ++ (all.drop i).flatMap outPc = (joinT ls).data.toList.flatMap escB := by
      rw [← a2, ← List.flatMap_append, List.take_append_drop]
    have h2 := congrArg List.length h1
    rw [List.length_append] at h2
    have h3 : pOpen.length = 3 := rfl
    have h4 := escB_len (joinT ls).data.toList
    have h5 : (joinT ls).data.toList.length = (joinT ls).size := rfl
    simp only [List.nil_append, List.length_append]
    omega
  · intro u hu
    have := a3.sz u hu
    omega
  · rintro e w' ⟨rfl, hm⟩
    rw [a2]
    exact ⟨rfl, hm⟩
end Go.Proofs.YtdnlfdppjfjncaaGreatDoor

/- The lines of FnOpenTag's text: a paragraph; the tag within it. -/
namespace Go.Proofs.YtdnlfdppjfjncaaGreatDoor
open Go Go.RowKit Go.Proofs

theorem goes_letter {x : ByteArray} (h0 : 0 < x.size) (h : Ltr x[0]) : Goes x := by
  have h32 : x[0] ≠ 32 := by
    intro e
    rw [e] at h
    rcases h with h | h
    · exact absurd h.1 (by decide)
    · exact absurd h.1 (by decide)
  have hl : p3 x 0 = 0 := by
    unfold p3 lead
    rw [dif_pos h0, if_neg h32]
  have ha : at0 x (p3 x 0) = x[0] := by rw [hl]; exact at0_eq h0
  have hk : ∀ k : Int, (k < 65 ∨ (90 < k ∧ k < 97) ∨ 122 < k) → ((at0 x (p3 x 0)).toNat : Int) ≠ k := by
    intro k hk e
    rw [ha] at e
    rcases h with h | h <;> omega
  refine ⟨⟨hk 62 (by omega), hk 35 (by omega), hk 45 (by omega), hk 95 (by omega), hk 42 (by omega), hk 60 (by omega), hk 96 (by omega), hk 126 (by omega), by rw [ha]; exact h32, Or.inl ?_⟩, hk 61 (by omega)⟩
  intro k hk2
  refine hk k ?_
  simp only [List.mem_cons, List.not_mem_nil, or_false] at hk2
  omega

/-- The lines of the text; cur: what the first one has so far. -/
def lnL (tail : List UInt8) : List UInt8 → Nat → List UInt8 → List (List UInt8)
  | cur, _, [] => [cur ++ tail]
  | cur, d, k :: r => if k.toNat % 3 = 1 then cur :: lnL tail (107 :: UInt8.ofNat (48 + d) :: valL k) (d + 1) r else lnL tail (cur ++ attL d k) (d + 1) r

theorem lnL_ne (tail : List UInt8) : ∀ (cur : List UInt8) (d : Nat) (l : List UInt8), lnL tail cur d l ≠ []
  | cur, d, [] => by simp [lnL]
  | cur, d, k :: r => by
    unfold lnL
    split
    · simp
    · exact lnL_ne tail _ _ r
theorem join_two (a : List UInt8) {X : List (List UInt8)} (h : X ≠ []) : Lib.join (a :: X) [10] = a ++ 10 :: Lib.join X [10] := by
  obtain ⟨y, r, rfl⟩ : ∃ y r, X = y :: r := by
    cases X with
    | nil => exact absurd rfl h
    | cons y r => exact ⟨y, r, rfl⟩
  rw [Lib.join_cons, Lib.join_cons, tail_cons]
theorem lnL_join (tail : List UInt8) : ∀ (cur : List UInt8) (d : Nat) (l : List UInt8), Lib.join (lnL tail cur d l) [10] = cur ++ (attsL d l ++ tail)
  | cur, d, [] => by simp [lnL, attsL, Lib.join_one]
  | cur, d, k :: r => by
    unfold lnL
    split
    · rename_i h
      rw [join_two _ (lnL_ne _ _ _ _), lnL_join tail _ _ r]
      have : sepL k = [10] := by unfold sepL; rw [if_neg (by omega), if_pos h]
      simp [attsL, attL, this]
    · rw [lnL_join tail _ _ r]
      simp [attsL]
theorem lnL_len (tail : List UInt8) : ∀ (cur : List UInt8) (d : Nat) (l : List UInt8), (lnL tail cur d l).length ≤ l.length + 1
  | cur, d, [] => by simp [lnL]
  | cur, d, k :: r => by
    unfold lnL
    split
    · have := lnL_len tail (107 :: UInt8.ofNat (48 + d) :: valL k) (d + 1) r
      simp only [List.length_cons]
      omega
    · have := lnL_len tail (cur ++ attL d k) (d + 1) r
      simp only [List.length_cons]
      omega

/-- A line: it begins with a letter; its signs are printable. -/
structure PreOk (x : List UInt8) : Prop where
  head : ∃ a r, x = a :: r ∧ Ltr a
  all : ∀ c ∈ x, 32 ≤ c.toNat ∧ c.toNat ≤ 126
theorem PreOk.app {x y : List UInt8} (h : PreOk x) (hy : ∀ c ∈ y, 32 ≤ c.toNat ∧ c.toNat ≤ 126) : PreOk (x ++ y) := by
  obtain ⟨⟨a, r, rfl, ha⟩, h2⟩ := h
  exact ⟨⟨a, r ++ y, rfl, ha⟩, fun c hc => (List.mem_append.1 hc).elim (h2 c) (hy c)⟩
theorem valL_all (k : UInt8) : ∀ c ∈ valL k, 32 ≤ c.toNat ∧ c.toNat ≤ 126 := by
  rcases valL_cases k with h | h | h | h <;> rw [h] <;> decide
theorem digit_all (d : Nat) (h : d < 10) : 32 ≤ (UInt8.ofNat (48 + d)).toNat ∧ (UInt8.ofNat (48 + d)).toNat ≤ 126 := by
  have : ∀ d : Fin 10, 32 ≤ (UInt8.ofNat (48 + d.1)).toNat ∧ (UInt8.ofNat (48 + d.1)).toNat ≤ 126 := by decide
  exact this ⟨d, h⟩
theorem key_all (d : Nat) (k : UInt8) (h : d < 10) : ∀ c ∈ 107 :: UInt8.ofNat (48 + d) :: valL k, 32 ≤ c.toNat ∧ c.toNat ≤ 126 := by
  intro c hc
  rcases List.mem_cons.1 hc with rfl | hc
  · decide
  · rcases List.mem_cons.1 hc with rfl | hc
    · exact digit_all d h
    · exact valL_all k c hc
theorem lnL_ok (tail : List UInt8) (ht : ∀ c ∈ tail, 32 ≤ c.toNat ∧ c.toNat ≤ 126) : ∀ (cur : List UInt8) (d : Nat) (l : List UInt8), d + l.length ≤ 10 → PreOk cur → ∀ x ∈ lnL tail cur d l, PreOk x
  | cur, d, [], _, hc, x, hx => by
    have : x = cur ++ tail := by simpa [lnL] using hx
    rw [this]
    exact hc.app ht
  | cur, d, k :: r, hd, hc, x, hx => by
    have hd' : d + (r.length + 1) ≤ 10 := hd
    unfold lnL at hx
    split at hx
    · rcases List.mem_cons.1 hx with rfl | hx
      · exact hc
      · exact lnL_ok tail ht _ _ r (by omega) ⟨⟨107, _, rfl, Or.inr (by decide)⟩, key_all d k (by omega)⟩ x hx
    · rename_i h
      refine lnL_ok tail ht _ _ r (by omega) (hc.app ?_) x hx
      intro c hcm
      unfold attL at hcm
      rcases List.mem_append.1 hcm with h1 | h1
      · have hs : sepL k = [32] ∨ sepL k = [32, 32] := by
          unfold sepL
          split
          · exact Or.inl rfl
          · first
              | exact Or.inr rfl
              | (rw [if_neg h]; exact Or.inr rfl)
        rcases hs with e | e <;> rw [e] at h1 <;> simp at h1 <;> subst h1 <;> decide
      · exact key_all d k (by omega) c h1

def tagL (name : ByteArray) (l : List UInt8) (slash : Bool) : List UInt8 := 60 :: (name.data.toList ++ (attsL 0 l ++ endL slash))
def docL (name : ByteArray) (l : List UInt8) (slash : Bool) : List UInt8 := [120, 32] ++ (tagL name l slash ++ [32, 120])
def lnsT (name : ByteArray) (l : List UInt8) (slash : Bool) : List ByteArray := (lnL (endL slash ++ [32, 120]) ([120, 32, 60] ++ name.data.toList) 0 l).map strL

theorem doc_join (name : ByteArray) (l : List UInt8) (slash : Bool) : joinT (lnsT name l slash) = strL (docL name l slash) := by
  apply ByteArray.ext
  apply Array.toList_inj.1
  rw [joinT_list, lnsT, List.map_map]
  have : (lnL (endL slash ++ [32, 120]) ([120, 32, 60] ++ name.data.toList) 0 l).map ((fun l => l.data.toList) ∘ strL) = lnL (endL slash ++ [32, 120]) ([120, 32, 60] ++ name.data.toList) 0 l := by
    have e : ((fun l : ByteArray => l.data.toList) ∘ strL) = id := by funext x; simp [strL]
    rw [e, List.map_id]
  rw [this, lnL_join]
  simp [strL, docL, tagL]

theorem attsL_len : ∀ (d : Nat) (l : List UInt8), (attsL d l).length ≤ 12 * l.length
  | _, [] => by simp [attsL]
  | d, k :: r => by
    have := attsL_len (d + 1) r
    have h1 : (sepL k).length ≤ 2 := by rcases sepL_cases k with h | h | h <;> rw [h] <;> simp
    have h2 : (valL k).length ≤ 8 := by rcases valL_cases k with h | h | h | h <;> rw [h] <;> simp
    simp only [attsL, attL, List.length_append, List.length_cons]
    omega
theorem endL_len (slash : Bool) : 1 ≤ (endL slash).length ∧ (endL slash).length ≤ 3 := by cases slash <;> simp [endL]
theorem tagL_len (name : ByteArray) (l : List UInt8) (slash : Bool) : (tagL name l slash).length = 1 + name.size + (attsL 0 l).length + (endL slash).length := by
  have e : name.data.toList.length = name.size := rfl
  simp only [tagL, List.length_append, List.length_cons]
  omega
theorem docL_len (name : ByteArray) (l : List UInt8) (slash : Bool) : (docL name l slash).length = (tagL name l slash).length + 4 := by
  simp only [docL, List.length_append, List.length_cons, List.length_nil]
  omega

/-- The name has letters alone. -/
def NameOk (name : ByteArray) : Prop := ∀ c ∈ name.data.toList, 97 ≤ c.toNat ∧ c.toNat ≤ 99

theorem endL_all (slash : Bool) : ∀ c ∈ endL slash ++ [32, 120], 32 ≤ c.toNat ∧ c.toNat ≤ 126 := by cases slash <;> decide

theorem last_of {s : ByteArray} {M : List UInt8} {c : UInt8} (h : s.data.toList = M ++ [c]) (hp : 0 < s.size) : s[s.size - 1]'(by omega) = c := by
  have hg := list_get (s := s) (i := s.size - 1) (by omega)
  have e1 : s.data.toList.length = s.size := rfl
  rw [h] at hg e1
  rw [List.length_append] at e1
  simp only [List.length_cons, List.length_nil] at e1
  rw [List.getElem?_append_right (by omega), show s.size - 1 - M.length = 0 by omega] at hg
  exact (Option.some.inj hg).symm

theorem doc_para (name : ByteArray) (l : List UInt8) (slash : Bool) (hn : NameOk name) (hn20 : name.size ≤ 20) (hl : l.length ≤ 5) : ParaText (lnsT name l slash) := by
  have hpre : PreOk ([120, 32, 60] ++ name.data.toList) := by
    refine ⟨⟨120, _, rfl, Or.inr (by decide)⟩, fun c hc => ?_⟩
    rcases List.mem_append.1 hc with h | h
    · simp at h
      rcases h with rfl | rfl | rfl <;> decide
    · have := hn c h
      omega
  have hall : ∀ x ∈ lnsT name l slash, PreOk x.data.toList := by
    intro x hx
    obtain ⟨y, hy, rfl⟩ := List.mem_map.1 hx
    have := lnL_ok _ (endL_all slash) _ 0 l (by omega) hpre y hy
    simpa [strL] using this
  have hpos : ∀ x ∈ lnsT name l slash, 0 < x.size := by
    intro x hx
    obtain ⟨a, r, h, _⟩ := (hall x hx).head
    have e : x.data.toList.length = x.size := rfl
    rw [h] at e
    simp only [List.length_cons] at e
    omega
  have hfirst : ∀ x ∈ lnsT name l slash, ∀ h : 0 < x.size, Ltr x[0] := by
    intro x hx h
    obtain ⟨a, r, e, ha⟩ := (hall x hx).head
    have hg := list_get h
    rw [e] at hg
    rw [← (Option.some.inj hg)]
    exact ha
  have hby : ∀ x ∈ lnsT name l slash, ∀ i (hi : i < x.size), 32 ≤ x[i].toNat ∧ x[i].toNat ≤ 126 := fun x hx i hi => (hall x hx).all _ (get_mem hi)
  have hne : ∀ (k : UInt8), k.toNat < 32 → ∀ x ∈ lnsT name l slash, ∀ i (hi : i < x.size), x[i] ≠ k := by
    intro k hk x hx i hi e
    have := (hby x hx i hi).1
    rw [e] at this
    omega
  have hj := doc_join name l slash
  have hsz : (joinT (lnsT name l slash)).size = (docL name l slash).length := by rw [hj, strL_size]
  have h1 := docL_len name l slash
  have h2 := tagL_len name l slash
  have h3 := attsL_len 0 l
  have h4 := endL_len slash
  refine ⟨?_, by omega, ?_, hpos, ?_, hne 0 (by decide), hne 10 (by decide), hne 13 (by decide), hne 9 (by decide), ?_, ?_, ?_, ?_⟩
  · unfold lnsT
    simp only [ne_eq, List.map_eq_nil_iff]
    exact lnL_ne _ _ _ _
  · have := lnL_len (endL slash ++ [32, 120]) ([120, 32, 60] ++ name.data.toList) 0 l
    unfold lnsT
    rw [List.length_map]
    omega
  · intro x hx h
    rcases hfirst x hx h with h | h
    · simp only [isW]
      have a1 : x[0] ≠ 32 := fun e => by rw [e] at h; exact absurd h.1 (by decide)
      have a2 : x[0] ≠ 9 := fun e => by rw [e] at h; exact absurd h.1 (by decide)
      simp [a1, a2]
    · simp only [isW]
      have a1 : x[0] ≠ 32 := fun e => by rw [e] at h; exact absurd h.1 (by decide)
      have a2 : x[0] ≠ 9 := fun e => by rw [e] at h; exact absurd h.1 (by decide)
      simp [a1, a2]
  · intro hp
    have hl : (joinT (lnsT name l slash)).data.toList = ([120, 32] ++ (tagL name l slash ++ [32])) ++ [120] := by
      rw [hj]
      simp [strL, docL]
    rw [last_of hl hp]
    rfl
  · intro a r hls h
    have := hfirst a (by rw [hls]; simp) h
    intro e
    rw [e] at this
    rcases this with h | h
    · exact absurd h.2 (by decide)
    · exact absurd h.1 (by decide)
  · intro a r hls
    have hm : a ∈ lnsT name l slash := by rw [hls]; simp
    exact Or.inl (goes_letter (hpos a hm) (hfirst a hm (hpos a hm))).toPlain
  · intro a r hls x hx
    have hm : x ∈ lnsT name l slash := by rw [hls]; exact List.mem_cons_of_mem _ hx
    exact goes_letter (hpos x hm) (hfirst x hm (hpos x hm))
end Go.Proofs.YtdnlfdppjfjncaaGreatDoor

/- A tag is no automatic link; parseAutoLinkOrHTML reads it. -/
namespace Go.Proofs.YtdnlfdppjfjncaaGreatDoor
open Go Go.RowKit Go.Proofs

/-- `<`, letters from place i + 1 up to place m, and a separator. -/
structure Nm (s : ByteArray) (i m : Nat) : Prop where
  two : i + 2 ≤ m
  most : m ≤ i + 21
  lt : m < s.size
  small : s.size ≤ 1000000
  open_ : ∀ h : i < s.size, s[i].toNat = 60
  ltr : ∀ j (h : j < s.size), i + 1 ≤ j → j < m → Ltr s[j]
  endc : ∀ h : m < s.size, Sep s[m]

theorem sep_ld {c : UInt8} (h : Sep c) : ldB c = false := by
  rcases sep_list0 h with rfl | rfl | rfl <;> decide
theorem isScheme_sep (c : UInt8) (h : Sep c) (w : World) : Calls Tryz.prog 158 #[.int .u8 c.toNat] w fun e w' => e = .returned (.bool false) ∧ w = w' := by
  have hl := sep_ld h
  have d1 : ((c.toNat : Int) == 43) = false := d_no (n := 43) (by rcases h with h | h | h <;> omega)
  have d2 : ((c.toNat : Int) == 46) = false := d_no (n := 46) (by rcases h with h | h | h <;> omega)
  have d3 : ((c.toNat : Int) == 45) = false := d_no (n := 45) (by rcases h with h | h | h <;> omega)
  clear h
  go_enter Tryz.func158, Tryz.ntmps158
  go_wp2_with fail
  refine (isLD_any c w).mono ?_
  rintro e w' ⟨rfl, rfl⟩
  rw [hl]
  go_wp2_with fail
  go_ret
  exact ⟨rfl, rfl⟩

theorem isUser_yes (c : UInt8) (h : Ltr c) (w : World) : Calls Tryz.prog 160 #[.int .u8 c.toNat] w fun e w' => e = .returned (.bool true) ∧ w = w' := by
  go_enter Tryz.func160, Tryz.ntmps160
  go_wp2_with fail
  refine (isLD_yes c h w).mono ?_
  rintro e w' ⟨rfl, rfl⟩
  go_wp2_with fail
  go_ret
  exact ⟨rfl, rfl⟩

theorem user_no : ∀ i : Fin 20, ∀ k ∈ [32, 10, 62], ((⟨#[46, 33, 35, 36, 37, 38, 39, 42, 43, 47, 61, 63, 94, 95, 96, 123, 124, 125, 126, 45]⟩ : ByteArray)[i.1]'(by show i.1 < 20; exact i.2)).toNat ≠ k := by decide

set_option maxHeartbeats 4000000 in
theorem isUser_sep (c : UInt8) (h : Sep c) (w : World) : Calls Tryz.prog 160 #[.int .u8 c.toNat] w fun e w' => e = .returned (.bool false) ∧ w = w' := by
  have hl := sep_ld h
  have hm : c.toNat ∈ [32, 10, 62] := by rcases h with h | h | h <;> rw [h] <;> simp
  have HM := Lib.hid hm
  clear h hm
  go_enter Tryz.func160, Tryz.ntmps160
  go_wp2_with fail
  refine (isLD_any c w).mono ?_
  rintro e w' ⟨rfl, rfl⟩
  rw [hl]
  clear hl
  go_wp2_with fail
  go_loopg [4] 20 (fun k v wr => ∃ i : Nat, v = .int .i64 i ∧ k = 20 - i ∧ i ≤ 20 ∧ w = wr)
  case atStart => exact ⟨0, rfl, rfl, by omega, rfl⟩
  case round =>
    obtain ⟨i, rfl, hk, hi, rfl⟩ := hrel
    have HK := Lib.hid hk
    clear hk
    have w3 : IntKind.i64.wrap ((i : Int) + 1) = (i : Int) + 1 := IntWalk.i64_in _ (by omega)
    by_cases hlt : i < 20
    · have w1 : (i : Int) < 20 := by omega
      have w2 : (0 : Int) ≤ i := by omega
      have hsz : (⟨#[46, 33, 35, 36, 37, 38, 39, 42, 43, 47, 61, 63, 94, 95, 96, 123, 124, 125, 126, 45]⟩ : ByteArray).size = 20 := rfl
      have hne := user_no ⟨i, hlt⟩ _ HM.out
      have d : ((c.toNat : Int) == (((⟨#[46, 33, 35, 36, 37, 38, 39, 42, 43, 47, 61, 63, 94, 95, 96, 123, 124, 125, 126, 45]⟩ : ByteArray)[i]'(by rw [hsz]; exact hlt)).toNat : Int)) = false := beq_eq_false_iff_ne.2 (fun e => hne (Int.ofNat_inj.1 e).symm)
      clear hne
      go_wp2_with fail
      go_roundg (20 - (i + 1))
      case measure => have := HK.out; omega
      case rel => exact ⟨i + 1, by simp, rfl, by omega, rfl⟩
    · have w1 : ¬ ((i : Int) < 20) := by omega
      go_wp2_with fail
      go_ret
      exact ⟨rfl, rfl⟩

set_option maxHeartbeats 4000000 in
theorem uri_no (s : ByteArray) (i m : Nat) (w : World) (hS : Nm s i m) :
    Calls Tryz.prog 111 #[.string s, .int .i64 i] w fun e w' => e = .returned (.tuple #[.nilIface, .int .i64 0, .bool false]) ∧ w = w' := by
  have h1 := hS.two
  have h2 := hS.lt
  have h3 := hS.small
  have h4 := hS.most
  have w0 : IntKind.i64.wrap ((i : Int) + 1) = (i : Int) + 1 := IntWalk.i64_in _ (by omega)
  have w1 : ¬ ((s.size : Int) ≤ (i : Int) + 1) := by omega
  have w2 : (i : Int) < s.size := by omega
  have w2' : (0 : Int) ≤ i := by omega
  have w3 : (i : Int) + 1 < s.size := by omega
  have w4 : (0 : Int) ≤ (i : Int) + 1 := by omega
  have w5 : ((i : Int) + 1).toNat = i + 1 := by omega
  have d0 : ((s[i].toNat : Int) != 60) = false := by rw [hS.open_ (by omega)]; rfl
  have hl1 := hS.ltr (i + 1) (by omega) (by omega) (by omega)
  have HS := Lib.hid hS
  clear hS
  go_enter Tryz.func111, Tryz.ntmps111
  go_wp2_with fail
  refine (isLetter_yes _ hl1 w).mono ?_
  rintro e w' ⟨rfl, rfl⟩
  clear hl1 d0
  go_wp2_with fail
  go_loopg [7] (m - (i + 1)) (fun k v wr => ∃ j : Nat, v = .int .i64 j ∧ k = m - j ∧ i + 1 ≤ j ∧ j ≤ m ∧ w = wr)
  case atStart => exact ⟨i + 1, by simp, by omega, by omega, by omega, rfl⟩
  case round =>
    obtain ⟨j, rfl, hk, hj1, hj, rfl⟩ := hrel
    have HK := Lib.hid hk
    clear hk
    have v1 : (j : Int) < s.size := by omega
    have v2 : (0 : Int) ≤ j := by omega
    have v3 : IntKind.i64.wrap ((j : Int) + 1) = (j : Int) + 1 := IntWalk.i64_in _ (by omega)
    have v4 : IntKind.i64.wrap ((j : Int) - ((i : Int) + 1)) = (j : Int) - ((i : Int) + 1) := IntWalk.i64_in _ (by omega)
    have v5 : (j : Int) - ((i : Int) + 1) ≤ 32 := by omega
    by_cases hlt : j < m
    · have hl := HS.out.ltr j (by omega) (by omega) hlt
      go_wp2_with fail
      refine (isScheme_yes _ hl w).mono ?_
      rintro e w' ⟨rfl, rfl⟩
      clear hl
      go_wp2_with fail
      go_roundg (m - (j + 1))
      case measure => have := HK.out; omega
      case rel => exact ⟨j + 1, by simp, rfl, by omega, by omega, rfl⟩
    · have hjm : j = m := by omega
      subst hjm
      have hc := HS.out.endc h2
      have hne : s[j].toNat ≠ 58 := by rcases hc with h | h | h <;> omega
      have d1 : ((s[j].toNat : Int) != 58) = true := by simp; omega
      have v7 : ¬ ((32 : Int) < (j : Int) - ((i : Int) + 1)) := by omega
      have v8 : ¬ ((s.size : Int) ≤ j) := by omega
      go_wp2_with fail
      refine (isScheme_sep _ hc w).mono ?_
      rintro e w' ⟨rfl, rfl⟩
      clear hc hne
      by_cases h6 : j < i + 3
      · have v6 : (j : Int) - ((i : Int) + 1) < 2 := by omega
        go_wp2_with fail
        go_ret3
        exact ⟨rfl, rfl⟩
      · have v6 : ¬ ((j : Int) - ((i : Int) + 1) < 2) := by omega
        go_wp2_with fail
        go_ret3
        exact ⟨rfl, rfl⟩

set_option maxHeartbeats 4000000 in
theorem email_no (s : ByteArray) (i m : Nat) (w : World) (hS : Nm s i m) :
    Calls Tryz.prog 112 #[.string s, .int .i64 i] w fun e w' => e = .returned (.tuple #[.nilIface, .int .i64 0, .bool false]) ∧ w = w' := by
  have h1 := hS.two
  have h2 := hS.lt
  have h3 := hS.small
  have h4 := hS.most
  have w0 : IntKind.i64.wrap ((i : Int) + 1) = (i : Int) + 1 := IntWalk.i64_in _ (by omega)
  have w1 : ¬ ((s.size : Int) ≤ (i : Int) + 1) := by omega
  have w2 : (i : Int) < s.size := by omega
  have w2' : (0 : Int) ≤ i := by omega
  have w3 : (i : Int) + 1 < s.size := by omega
  have w4 : (0 : Int) ≤ (i : Int) + 1 := by omega
  have w5 : ((i : Int) + 1).toNat = i + 1 := by omega
  have d0 : ((s[i].toNat : Int) != 60) = false := by rw [hS.open_ (by omega)]; rfl
  have hl1 := hS.ltr (i + 1) (by omega) (by omega) (by omega)
  have HS := Lib.hid hS
  clear hS
  go_enter Tryz.func112, Tryz.ntmps112
  go_wp2_with fail
  refine (isUser_yes _ hl1 w).mono ?_
  rintro e w' ⟨rfl, rfl⟩
  clear hl1 d0
  go_wp2_with fail
  go_loopg [7] (m - (i + 1)) (fun k v wr => ∃ j : Nat, v = .int .i64 j ∧ k = m - j ∧ i + 1 ≤ j ∧ j ≤ m ∧ w = wr)
  case atStart => exact ⟨i + 1, by simp, by omega, by omega, by omega, rfl⟩
  case round =>
    obtain ⟨j, rfl, hk, hj1, hj, rfl⟩ := hrel
    have HK := Lib.hid hk
    clear hk
    have v1 : (j : Int) < s.size := by omega
    have v2 : (0 : Int) ≤ j := by omega
    have v3 : IntKind.i64.wrap ((j : Int) + 1) = (j : Int) + 1 := IntWalk.i64_in _ (by omega)
    by_cases hlt : j < m
    · have hl := HS.out.ltr j (by omega) (by omega) hlt
      go_wp2_with fail
      refine (isUser_yes _ hl w).mono ?_
      rintro e w' ⟨rfl, rfl⟩
      clear hl
      go_wp2_with fail
      go_roundg (m - (j + 1))
      case measure => have := HK.out; omega
      case rel => exact ⟨j + 1, by simp, rfl, by omega, by omega, rfl⟩
    · have hjm : j = m := by omega
      subst hjm
      have hc := HS.out.endc h2
      have hne : s[j].toNat ≠ 64 := by rcases hc with h | h | h <;> omega
      have d1 : ((s[j].toNat : Int) != 64) = true := by simp; omega
      have v8 : ¬ ((s.size : Int) ≤ j) := by omega
      go_wp2_with fail
      refine (isUser_sep _ hc w).mono ?_
      rintro e w' ⟨rfl, rfl⟩
      clear hc hne
      go_wp2_with fail
      go_ret3
      exact ⟨rfl, rfl⟩

set_option maxHeartbeats 4000000 in
theorem htmlTag_some (bp : Nat) (q : PSt) (s : ByteArray) (i m n j k z : Nat) (w : World) (hT : Tag s i m n j k z) (hS : Nm s i m) (hp : PsAt w bp q) :
    Calls Tryz.prog 113 #[.pointer (some ⟨bp, 0, none⟩), .string s, .int .i64 i] w (TagOut w bp q (s.extract i (z + 1)) z) := by
  have h1 := hS.two
  have h2 := hS.lt
  have h3 := hS.small
  have w0 : IntKind.i64.wrap ((i : Int) + 3) = (i : Int) + 3 := IntWalk.i64_in _ (by omega)
  have w0' : IntKind.i64.wrap ((i : Int) + 1) = (i : Int) + 1 := IntWalk.i64_in _ (by omega)
  have w1 : (i : Int) + 3 ≤ s.size := by omega
  have w2 : (i : Int) < s.size := by omega
  have w2' : (0 : Int) ≤ i := by omega
  have w3 : (i : Int) + 1 < s.size := by omega
  have w4 : (0 : Int) ≤ (i : Int) + 1 := by omega
  have w5 : ((i : Int) + 1).toNat = i + 1 := by omega
  have d0 : ((s[i].toNat : Int) == 60) = true := by rw [hS.open_ (by omega)]; rfl
  have hl1 := hS.ltr (i + 1) (by omega) (by omega) (by omega)
  have d1 : ((s[i + 1].toNat : Int) == 47) = false := d_no (n := 47) (by rcases hl1 with h | h <;> omega)
  have d2 : ((s[i + 1].toNat : Int) == 33) = false := d_no (n := 33) (by rcases hl1 with h | h <;> omega)
  have d3 : ((s[i + 1].toNat : Int) == 63) = false := d_no (n := 63) (by rcases hl1 with h | h <;> omega)
  clear hl1 hS
  go_enter Tryz.func113, Tryz.ntmps113
  go_wp2_with fail
  refine (openTag_some bp q s i m n j k z w hT hp).mono ?_
  rintro e w1 ⟨b, rfl, hm, hc, hb, hB⟩
  clear hT hp
  go_wp2_with fail
  go_ret3
  exact ⟨b, rfl, hm, hc, hb, hB⟩

theorem tag_call (s : ByteArray) (i m n j k z : Nat) (hT : Tag s i m n j k z) (hS : Nm s i m) : PieceCall s i 78 (.tag (s.extract i (z + 1))) i (z + 1) := by
  intro bp q W hq
  go_enter Tryz.func78, Tryz.ntmps78
  go_wp2_with fail
  refine (uri_no s i m W hS).mono ?_
  rintro e w' ⟨rfl, rfl⟩
  go_wp2_with fail
  refine (email_no s i m W hS).mono ?_
  rintro e w' ⟨rfl, rfl⟩
  go_wp2_with fail
  refine (htmlTag_some bp q s i m n j k z W hT hS hq).mono ?_
  rintro e w1 ⟨b, rfl, hm, ⟨c, hc⟩, hb, hB⟩
  go_wp2_with fail
  exact bodyPost_ret (v := .tuple #[.iface 285 (.pointer (some ⟨b, 0, none⟩)), .int .i64 i, .int .i64 ((z + 1 : Nat) : Int), .bool true]) (by simp [results, Tryz.results78, go_sem]) rfl
    ⟨b, c, rfl, hm, hc, hb, hB⟩
end Go.Proofs.YtdnlfdppjfjncaaGreatDoor

/- FnOpenTag's text: the tag, the plan, the HTML. -/
namespace Go.Proofs.YtdnlfdppjfjncaaGreatDoor
open Go Go.RowKit Go.Proofs

def docT (name : ByteArray) (l : List UInt8) (slash : Bool) : ByteArray := strL (docL name l slash)
theorem docT_list (name : ByteArray) (l : List UInt8) (slash : Bool) : (docT name l slash).data.toList = docL name l slash := by simp [docT, strL]

theorem ltr_ldh {c : UInt8} (h : 97 ≤ c.toNat ∧ c.toNat ≤ 99) : ltrB c = true ∧ ldhB c = true := by
  have h1 : ltrB c = true := by simp [ltrB]; omega
  exact ⟨h1, by simp [ldhB, ldB, h1]⟩

theorem name_ne {L K : List UInt8} {a : UInt8} (hn : ∀ c ∈ L, 97 ≤ c.toNat ∧ c.toNat ≤ 99) (ha : a ∈ K) (h9 : 99 < a.toNat) : (L == K) = false := by
  refine beq_eq_false_iff_ne.2 (fun e => ?_)
  have := hn a (by rw [e]; exact ha)
  omega

theorem doc_tag (name : ByteArray) (l : List UInt8) (slash : Bool) (hn : NameOk name) (hn0 : 0 < name.size) (hn20 : name.size ≤ 20) (hl : l.length ≤ 5) :
    ∃ m n j k z, Tag (docT name l slash) 2 m n j k z ∧ Nm (docT name l slash) 2 m ∧ z + 1 = 2 + (tagL name l slash).length := by
  generalize hs : docT name l slash = s
  have hlist : s.data.toList = docL name l slash := by rw [← hs]; exact docT_list name l slash
  have hsize : s.size = (docL name l slash).length := by rw [← hlist]; rfl
  have e1 := docL_len name l slash
  have e2 := tagL_len name l slash
  have e3 := attsL_len 0 l
  have e4 := endL_len slash
  have en : name.data.toList.length = name.size := rfl
  have hsm : s.size ≤ 1000000 := by omega
  have h0 : FromL s 0 ([120, 32] ++ (60 :: (name.data.toList ++ (attsL 0 l ++ (endL slash ++ [32, 120]))))) := by
    unfold FromL
    rw [List.drop_zero, hlist]
    simp [docL, tagL]
  have h2 : FromL s 2 (60 :: (name.data.toList ++ (attsL 0 l ++ (endL slash ++ [32, 120])))) := h0.app
  have h3 : FromL s 3 (name.data.toList ++ (attsL 0 l ++ (endL slash ++ [32, 120]))) := h2.tl
  have h4 : FromL s (3 + name.size) (attsL 0 l ++ (endL slash ++ [32, 120])) := h3.app
  have h5 : FromL s (3 + name.size + (attsL 0 l).length) (endL slash ++ [32, 120]) := h4.app
  obtain ⟨⟨c, r, hcr, hsep⟩, _⟩ := After.atts slash 32 [120] 0 l
  have hcr' : attsL 0 l ++ (endL slash ++ [32, 120]) = c :: r := hcr
  obtain ⟨n1, n2, n3⟩ := sep_an hsep
  obtain ⟨a, t, hat⟩ : ∃ a t, name.data.toList = a :: t := by
    cases h : name.data.toList with
    | nil => rw [h] at en; simp at en; omega
    | cons a t => exact ⟨a, t, rfl⟩
  have htl : t.length + 1 = name.size := by rw [← en, hat]; rfl
  have ha := ltr_ldh (hn a (by rw [hat]; simp))
  have h3' : FromL s 3 (a :: (t ++ c :: r)) := by
    have := h3
    rw [hcr', hat] at this
    exact this
  have hm : tagN s 3 = some (3 + name.size) := by
    unfold tagN
    rw [dif_pos h3'.lt, h3'.hd h3'.lt, if_pos ha.1, h3'.tl.run]
    congr 1
    have : (t ++ c :: r).takeWhile ldhB = t := by
      rw [List.takeWhile_append_of_pos (fun x hx => (ltr_ldh (hn x (by rw [hat]; exact List.mem_cons_of_mem _ hx))).2), List.takeWhile_cons_of_neg (by rw [n2]; exact Bool.false_ne_true), List.append_nil]
    rw [this]
    omega
  have hex : (s.extract 3 (3 + name.size)).data.toList = name.data.toList := by
    rw [Lib.extract_data, show s.data.toList.drop 3 = _ from h3, show 3 + name.size - 3 = name.data.toList.length by omega, List.take_left']
    rfl
  have htoL : (s.extract 3 (3 + name.size)).toList = name.data.toList := by rw [ByteArray.toList_eq]; exact hex
  have hchain := chain_at (s := s) (slash := slash) (x := 32) (y := [120]) l 0 (3 + name.size) (by omega) (by omega) h4
  have h4' : FromL s (3 + name.size) (c :: r) := by
    have := h4
    rw [hcr'] at this
    exact this
  have hletter : ∀ j (h : j < s.size), 2 + 1 ≤ j → j < 3 + name.size → Ltr s[j] := by
    intro j hj hj1 hj2
    have hg := list_get hj
    have hd : (s.data.toList.drop 3)[j - 3]? = s.data.toList[j]? := by rw [List.getElem?_drop, show 3 + (j - 3) = j by omega]
    rw [show s.data.toList.drop 3 = _ from h3, List.getElem?_append_left (by omega)] at hd
    rw [hg] at hd
    have := hn _ (List.mem_of_getElem? hd)
    exact Or.inr (by omega)
  have hN : Nm s 2 (3 + name.size) := ⟨by omega, by omega, h4'.lt, hsm, fun h => by rw [h2.hd h]; rfl, hletter, fun h => by rw [h4'.hd h]; exact hsep⟩
  have hopen : s[2]'h2.lt = 60 := h2.hd h2.lt
  have q1 := name_ne (K := [112, 114, 101]) (a := 112) hn (by decide) (by decide)
  have q2 := name_ne (K := [115, 99, 114, 105, 112, 116]) (a := 115) hn (by decide) (by decide)
  have q3 := name_ne (K := [115, 116, 121, 108, 101]) (a := 115) hn (by decide) (by decide)
  have q4 := name_ne (K := [116, 101, 120, 116, 97, 114, 101, 97]) (a := 116) hn (by decide) (by decide)
  rw [← htoL] at q1 q2 q3 q4
  cases slash with
  | true =>
    have h6 : FromL s (3 + name.size + (attsL 0 l).length) (32 :: 47 :: 62 :: [32, 120]) := h5
    refine ⟨3 + name.size, l.length, 3 + name.size + (attsL 0 l).length, 3 + name.size + (attsL 0 l).length + 1, 3 + name.size + (attsL 0 l).length + 1 + 1, ⟨hsm, h2.lt, by rw [hopen]; rfl, hm, by omega, q1, q2, q3, q4, hchain, h6.lt, ?_, ?_, ?_, h6.tl.tl.lt, ?_, ?_, ?_⟩, hN, ?_⟩
    · rw [h6.hd h6.lt]; exact Or.inl rfl
    · have hr : rn spB s (3 + name.size + (attsL 0 l).length) = 3 + name.size + (attsL 0 l).length + 1 := by rw [h6.run]; rfl
      rw [hr]
      unfold atN
      rw [dif_pos h6.tl.tl.lt, h6.tl.hd h6.tl.lt, if_neg (by decide)]
    · rw [h6.run]; rfl
    · rw [h6.tl.tl.hd h6.tl.tl.lt]; rfl
    · exact Or.inr ⟨rfl, h6.tl.lt, by rw [h6.tl.hd h6.tl.lt]; rfl⟩
    · omega
    · rw [e2]
      show _ = 2 + (1 + name.size + (attsL 0 l).length + 3)
      omega
  | false =>
    have h6 : FromL s (3 + name.size + (attsL 0 l).length) (62 :: [32, 120]) := h5
    have hr : rn spB s (3 + name.size + (attsL 0 l).length) = 3 + name.size + (attsL 0 l).length := rn_at h6 (by decide)
    refine ⟨3 + name.size, l.length, 3 + name.size + (attsL 0 l).length, 3 + name.size + (attsL 0 l).length, 3 + name.size + (attsL 0 l).length, ⟨hsm, h2.lt, by rw [hopen]; rfl, hm, by omega, q1, q2, q3, q4, hchain, h6.lt, ?_, ?_, hr, h6.lt, ?_, Or.inl rfl, by omega⟩, hN, ?_⟩
    · rw [h6.hd h6.lt]; exact Or.inr (Or.inr rfl)
    · rw [hr]
      unfold atN
      rw [dif_pos h6.tl.lt, h6.hd h6.lt, if_neg (by decide)]
    · rw [h6.hd h6.lt]; rfl
    · rw [e2]
      show _ = 2 + (1 + name.size + (attsL 0 l).length + 1)
      omega

def tagT (name : ByteArray) (l : List UInt8) (slash : Bool) : ByteArray := strL (tagL name l slash)

theorem doc_plan (name : ByteArray) (l : List UInt8) (slash : Bool) (hn : NameOk name) (hn0 : 0 < name.size) (hn20 : name.size ≤ 20) (hl : l.length ≤ 5) :
    Plan (docT name l slash) 0 0 [.plain ⟨#[120, 32]⟩, .tag (tagT name l slash), .plain ⟨#[32, 120]⟩] := by
  obtain ⟨m, n, j, k, z, hT, hN, hz⟩ := doc_tag name l slash hn hn0 hn20 hl
  have hlist := docT_list name l slash
  have hsize : (docT name l slash).size = (docL name l slash).length := by rw [← hlist]; rfl
  have e1 := docL_len name l slash
  have e2 := tagL_len name l slash
  have h0 : FromL (docT name l slash) 0 (120 :: 32 :: (tagL name l slash ++ [32, 120])) := by
    unfold FromL
    rw [List.drop_zero, hlist]
    rfl
  have h1 := h0.tl
  have h2 : FromL (docT name l slash) 2 (tagL name l slash ++ [32, 120]) := h1.tl
  have h3 : FromL (docT name l slash) (z + 1) (32 :: 120 :: []) := by rw [hz]; exact h2.app
  have h4 := h3.tl
  have hc := tag_call (docT name l slash) 2 m n j k z hT hN
  have ext : (docT name l slash).extract 2 (z + 1) = tagT name l slash := by
    apply ByteArray.ext
    apply Array.toList_inj.1
    rw [Lib.extract_data, show (docT name l slash).data.toList.drop 2 = _ from h2, hz, show 2 + (tagL name l slash).length - 2 = (tagL name l slash).length by omega, List.take_left']
    · simp [tagT, strL]
    · rfl
  have ext0 : (docT name l slash).extract 0 2 = ⟨#[120, 32]⟩ := by
    apply ByteArray.ext
    apply Array.toList_inj.1
    rw [Lib.extract_data, show (docT name l slash).data.toList.drop 0 = _ from h0]
    rfl
  have ext9 : (docT name l slash).extract (z + 1) (docT name l slash).size = ⟨#[32, 120]⟩ := by
    apply ByteArray.ext
    apply Array.toList_inj.1
    rw [extract_end, show (docT name l slash).data.toList.drop (z + 1) = _ from h3]
  rw [ext] at hc
  have hzlt := h3.lt
  have hend : z + 1 + 1 + 1 = (docT name l slash).size := by omega
  have hfin : Plan (docT name l slash) (z + 1) (z + 1) [.plain ⟨#[32, 120]⟩] := by
    refine Plan.dull h3.lt (by rw [h3.hd h3.lt]; decide) (Plan.dull h4.lt (by rw [h4.hd h4.lt]; decide) ?_)
    have := Plan.fin (s := docT name l slash) (z + 1)
    rw [if_pos hzlt, ext9] at this
    rw [hend]
    exact this
  have hp := Plan.piece (s := docT name l slash) (k := 2) (e := 0) (r := [.plain ⟨#[32, 120]⟩]) (by omega) 78 (Or.inr (Or.inl ⟨by
    have := hN.open_ (by omega)
    exact UInt8.toNat_inj.1 this, rfl⟩)) (.tag (tagT name l slash)) 2 (z + 1) (Nat.zero_le _) (Nat.le_refl _) (by omega) (by omega) hc (fun _ h => by cases h) hfin
  rw [if_pos (show 0 < 2 by decide), ext0] at hp
  exact Plan.dull h0.lt (by rw [h0.hd h0.lt]; decide) (Plan.dull h1.lt (by rw [h1.hd h1.lt]; decide) hp)

def wantT (name : ByteArray) (l : List UInt8) (slash : Bool) : ByteArray := strL (pOpen ++ docL name l slash ++ pClose)

theorem html_tag (name : ByteArray) (l : List UInt8) (slash : Bool) (w : World) (hn : NameOk name) (hn0 : 0 < name.size) (hn20 : name.size ≤ 20) (hl : l.length ≤ 5) :
    Calls Tryz.prog 17 #[.agg #[.bool false, .bool false, .bool false, .bool false, .bool false, .bool false, .bool false, .bool false, .bool false, .bool false], .string (docT name l slash)] w fun e w' => e = .returned (.string (wantT name l slash)) ∧ Same w w' := by
  have hP := doc_plan name l slash hn hn0 hn20 hl
  have hT := doc_para name l slash hn hn20 hl
  have hj : joinT (lnsT name l slash) = docT name l slash := doc_join name l slash
  have e1 := docL_len name l slash
  have e2 := tagL_len name l slash
  have e3 := attsL_len 0 l
  have e4 := endL_len slash
  rw [← hj] at hP
  have hts : (tagT name l slash).size = (tagL name l slash).length := strL_size _
  have htl : (tagT name l slash).data.toList = tagL name l slash := by simp [tagT, strL]
  have hout : [Pc.plain ⟨#[120, 32]⟩, .tag (tagT name l slash), .plain ⟨#[32, 120]⟩].flatMap outPc = docL name l slash := by
    simp only [List.flatMap_cons, List.flatMap_nil, outPc, htl, docL]
    have a1 : escN ⟨#[120, 32]⟩ (⟨#[120, 32]⟩ : ByteArray).size = [120, 32] := by decide
    have a2 : escN ⟨#[32, 120]⟩ (⟨#[32, 120]⟩ : ByteArray).size = [32, 120] := by decide
    rw [a1, a2]
    simp
  refine (show Calls _ _ #[_, .string (docT name l slash)] _ _ by
    rw [← hj]
    refine (impl_HTML_many (lnsT name l slash) w hT _ hP ?_ ?_ ?_).mono ?_
    · intro i
      have h1 : (([Pc.plain ⟨#[120, 32]⟩, .tag (tagT name l slash), .plain ⟨#[32, 120]⟩].take i).flatMap outPc).length ≤ (docL name l slash).length := by
        rw [← hout]
        have := congrArg (fun l => (l.flatMap outPc).length) (List.take_append_drop i [Pc.plain ⟨#[120, 32]⟩, .tag (tagT name l slash), .plain ⟨#[32, 120]⟩])
        simp only [List.flatMap_append, List.length_append] at this
        omega
      have h3 : pOpen.length = 3 := rfl
      simp only [List.nil_append, List.length_append]
      omega
    · intro u hu
      have h2 : (⟨#[120, 32]⟩ : ByteArray).size = 2 := rfl
      have h3 : (⟨#[32, 120]⟩ : ByteArray).size = 2 := rfl
      have : u = ⟨#[120, 32]⟩ ∨ u = tagT name l slash ∨ u = ⟨#[32, 120]⟩ := by
        rcases hu with h | h | h <;> simp at h
        · rcases h with h | h
          · exact Or.inl h
          · exact Or.inr (Or.inr h)
        · exact Or.inr (Or.inl h)
      rcases this with rfl | rfl | rfl <;> omega
    · intro t u h
      simp at h
    · rintro e w' ⟨rfl, hm⟩
      rw [hout]
      exact ⟨rfl, hm⟩)
end Go.Proofs.YtdnlfdppjfjncaaGreatDoor
