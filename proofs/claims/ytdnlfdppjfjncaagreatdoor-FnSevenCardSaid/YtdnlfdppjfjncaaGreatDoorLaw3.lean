/- The plain law of FnEscaped: what the escaped text is, seen by the parser. -/
import Derived.Test.YtdnlfdppjfjncaaGreatDoorLaw2
import Derived.Lib.Strings
namespace Go.Proofs.YtdnlfdppjfjncaaGreatDoor
open Go Go.RowKit Go.Proofs

/-- A byte with a backslash ahead, if it is a sign. -/
def slB (c : UInt8) : List UInt8 := if punct c then [92, c] else [c]
/-- A text with a backslash ahead of each sign. -/
def slL (l : List UInt8) : List UInt8 := l.flatMap slB
def slT (t : ByteArray) : ByteArray := ⟨(slL t.data.toList).toArray⟩

def Pr (c : UInt8) : Prop := 32 ≤ c.toNat ∧ c.toNat ≤ 126

theorem slL_len : ∀ l : List UInt8, l.length ≤ (slL l).length ∧ (slL l).length ≤ 2 * l.length
  | [] => by simp [slL]
  | c :: l => by
    have h := slL_len l
    have e : slL (c :: l) = slB c ++ slL l := by simp [slL]
    rw [e]
    unfold slB
    split <;> simp <;> omega

theorem slT_size (t : ByteArray) : t.size ≤ (slT t).size ∧ (slT t).size ≤ 2 * t.size := by
  have h := slL_len t.data.toList
  have e1 : t.data.toList.length = t.size := rfl
  have e2 : (slT t).size = (slL t.data.toList).length := by show (slL t.data.toList).toArray.size = _; simp
  omega

theorem pr_of_prFrom (t : ByteArray) : ∀ (n i : Nat), t.size - i = n → prFrom t i = true → ∀ j (hj : j < t.size), i ≤ j → Pr t[j]
  | 0, i, hn, _, j, hj, hij => by omega
  | n + 1, i, hn, h, j, hj, hij => by
    have hi : i < t.size := by omega
    rw [prFrom, dif_pos hi] at h
    simp only [Bool.and_eq_true, decide_eq_true_eq] at h
    rcases Nat.eq_or_lt_of_le hij with e | e
    · subst e; exact ⟨h.1.1, h.1.2⟩
    · exact pr_of_prFrom t n (i + 1) (by omega) h.2 j hj (by omega)

theorem pr_list {t : ByteArray} (h : prFrom t 0 = true) : ∀ c ∈ t.data.toList, Pr c := by
  intro c hc
  obtain ⟨j, hj, rfl⟩ := List.getElem_of_mem hc
  have hj' : j < t.size := by simpa using hj
  exact pr_of_prFrom t _ 0 rfl h j hj' (Nat.zero_le _)

theorem dull_of {c : UInt8} (hp : Pr c) (h : punct c = false) : dull c = true := by
  unfold dull
  rw [Bool.not_eq_true', ← Bool.not_eq_true]
  intro hc
  rw [List.contains_iff_mem] at hc
  simp only [List.mem_cons, List.not_mem_nil, or_false] at hc
  rcases hc with rfl | rfl | rfl | rfl | rfl | rfl | rfl | rfl | rfl | rfl | rfl | rfl | rfl | rfl | rfl
  all_goals first | exact absurd h (by decide) | exact absurd hp.1 (by decide)

/-- What stands from place k on. -/
def from_ (s : ByteArray) (k : Nat) : List UInt8 := s.data.toList.drop k

theorem from_cons {s : ByteArray} {k : Nat} {c : UInt8} {r : List UInt8} (h : from_ s k = c :: r) : ∃ hk : k < s.size, s[k] = c ∧ from_ s (k + 1) = r := by
  unfold from_ at h
  have hk : k < s.data.toList.length := by
    rcases Nat.lt_or_ge k s.data.toList.length with h1 | h1
    · exact h1
    · rw [List.drop_eq_nil_of_le h1] at h; cases h
  rw [List.drop_eq_getElem_cons hk] at h
  injection h with h1 h2
  exact ⟨by simpa using hk, h1, h2⟩
theorem from_nil {s : ByteArray} {k : Nat} (hk : k ≤ s.size) (h : from_ s k = []) : k = s.size := by
  unfold from_ at h
  have h1 := List.drop_eq_nil_iff.1 h
  have e1 : s.data.toList.length = s.size := rfl
  omega
theorem from_zero (s : ByteArray) : from_ s 0 = s.data.toList := rfl

theorem sl_cons (c : UInt8) (l : List UInt8) : slL (c :: l) = slB c ++ slL l := by simp [slL]
theorem punct_92 : punct 92 = true := by decide

theorem escd_sl (s : ByteArray) : ∀ (l : List UInt8) (k : Nat), k ≤ s.size → (∀ c ∈ l, Pr c) → from_ s k = slL l → Escd s k
  | [], k, hk, _, h => by
    have := from_nil hk h
    rw [Escd, dif_neg (by omega)]
    exact this
  | c :: l, k, hk, hp, h => by
    rw [sl_cons] at h
    unfold slB at h
    by_cases hc : punct c = true
    · rw [if_pos hc] at h
      obtain ⟨h1, e1, h2⟩ := from_cons h
      obtain ⟨h3, e3, h4⟩ := from_cons h2
      rw [Escd, dif_pos h1]
      exact Or.inr ⟨e1, ⟨h3, by rw [e3]; exact hc⟩, escd_sl s l (k + 2) (by omega) (fun x hx => hp x (List.mem_cons_of_mem _ hx)) h4⟩
    · rw [if_neg hc] at h
      obtain ⟨h1, e1, h2⟩ := from_cons h
      rw [Escd, dif_pos h1]
      exact Or.inl ⟨by rw [e1]; exact dull_of (hp c List.mem_cons_self) (by simpa using hc), escd_sl s l (k + 1) (by omega) (fun x hx => hp x (List.mem_cons_of_mem _ hx)) h2⟩

theorem escN_all (s : ByteArray) : escN s s.size = s.data.toList.flatMap escB := by
  show (s.data.toList.take s.data.toList.length).flatMap escB = _
  rw [List.take_length]
theorem out_plain (s : ByteArray) : outPc (.plain s) = s.data.toList.flatMap escB := escN_all s
theorem out_esc (s : ByteArray) : outPc (.esc s) = s.data.toList.flatMap escB := escN_all s

theorem ext_list (s : ByteArray) (i j : Nat) : (s.extract i j).data.toList = (s.data.toList.drop i).take (j - i) := Lib.extract_data s i j
theorem ext_none (s : ByteArray) (i : Nat) : (s.extract i i).data.toList = [] := by rw [ext_list, Nat.sub_self]; rfl
theorem ext_snoc {s : ByteArray} {e k : Nat} (he : e ≤ k) (hk : k < s.size) : (s.extract e (k + 1)).data.toList = (s.extract e k).data.toList ++ [s[k]] := by
  rw [ext_list, ext_list, show k + 1 - e = (k - e) + 1 by omega, List.take_add_one]
  have hg : (s.data.toList.drop e)[k - e]? = some s[k] := by
    rw [List.getElem?_drop, show e + (k - e) = k by omega]
    have h : k < s.data.toList.length := hk
    rw [List.getElem?_eq_getElem h]; rfl
  rw [hg]
  rfl

theorem scan_sl (s : ByteArray) : ∀ (l : List UInt8) (k e : Nat), e ≤ k → k ≤ s.size → (∀ c ∈ l, Pr c) → from_ s k = slL l →
    (scan s k e).flatMap outPc = (s.extract e k).data.toList.flatMap escB ++ l.flatMap escB
  | [], k, e, he, hk, _, h => by
    have hke := from_nil hk h
    subst hke
    rw [scan_end]
    by_cases hlt : e < s.size
    · rw [if_pos hlt]
      simp only [List.flatMap_cons, List.flatMap_nil, out_plain]
    · rw [if_neg hlt]
      have : e = s.size := by omega
      rw [this, ext_none]
      rfl
  | c :: l, k, e, he, hk, hp, h => by
    rw [sl_cons] at h
    unfold slB at h
    by_cases hc : punct c = true
    · rw [if_pos hc] at h
      obtain ⟨h1, e1, h2⟩ := from_cons h
      obtain ⟨h3, e3, h4⟩ := from_cons h2
      rw [scan, dif_pos h1, if_pos e1, List.flatMap_append, List.flatMap_cons, scan_sl s l (k + 2) (k + 2) (Nat.le_refl _) (by omega) (fun x hx => hp x (List.mem_cons_of_mem _ hx)) h4]
      have hx : (s.extract (k + 1) (k + 2)).data.toList = [c] := by rw [ext1 s (k + 1) h3, e3]
      rw [ext_none, out_esc, hx]
      by_cases hlt : e < k
      · rw [if_pos hlt]
        simp only [List.flatMap_cons, List.flatMap_nil, out_plain, List.append_nil, List.nil_append]
      · rw [if_neg hlt]
        have : e = k := by omega
        rw [this, ext_none]
        simp only [List.flatMap_cons, List.flatMap_nil, List.append_nil, List.nil_append]
    · rw [if_neg hc] at h
      obtain ⟨h1, e1, h2⟩ := from_cons h
      have h92 : s[k] ≠ 92 := by
        rw [e1]; intro h; rw [h] at hc; exact hc punct_92
      rw [scan, dif_pos h1, if_neg h92, scan_sl s l (k + 1) e (by omega) (by omega) (fun x hx => hp x (List.mem_cons_of_mem _ hx)) h2]
      rw [ext_snoc he h1, e1]
      simp only [List.flatMap_append, List.flatMap_cons, List.flatMap_nil, List.append_nil, List.append_assoc]
end Go.Proofs.YtdnlfdppjfjncaaGreatDoor
