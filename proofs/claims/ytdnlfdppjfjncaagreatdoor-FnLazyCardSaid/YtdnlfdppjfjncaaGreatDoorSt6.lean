/- Some texts of one proof, put into one file: Escd, Law3, Law4, Law5, Only0, EmphU, EmphV, InlG. -/
import Derived.Lib.Strings
import Derived.Test.YtdnlfdppjfjncaaGreatDoorSt3
import Derived.Test.YtdnlfdppjfjncaaGreatDoorSt5
/- A text of dull bytes, of signs behind a backslash, and of line feeds between other bytes: how inline reads it. -/
namespace Go.Proofs.YtdnlfdppjfjncaaGreatDoor
open Go Go.RowKit Go.Proofs

/-- The text is made of dull bytes and of signs behind a backslash. -/
def Escd (s : ByteArray) (k : Nat) : Prop :=
  if h : k < s.size then
    (dull s[k] = true ∧ Escd s (k + 1)) ∨ (s[k] = 92 ∧ (∃ h' : k + 1 < s.size, punct s[k + 1] = true) ∧ Escd s (k + 2))
  else k = s.size
termination_by s.size - k

/-- The pieces of such a text from k on; from e on nothing has been emitted. -/
def scan (s : ByteArray) (k e : Nat) : List Pc :=
  if h : k < s.size then
    (if s[k] = 92 then (if e < k then [.plain (s.extract e k)] else []) ++ .esc (s.extract (k + 1) (k + 2)) :: scan s (k + 2) (k + 2) else scan s (k + 1) e)
  else (if e < k then [.plain (s.extract e k)] else [])
termination_by s.size - k

theorem scan_end {s : ByteArray} {e : Nat} : scan s s.size e = if e < s.size then [Pc.plain (s.extract e s.size)] else [] := by
  rw [scan, dif_neg (Nat.lt_irrefl _)]

theorem esc_call (s : ByteArray) (k : Nat) (hk : k + 1 < s.size) (hs : s.size ≤ 1000000) (hp : punct s[k + 1] = true) : PieceCall s k 75 (.esc (s.extract (k + 1) (k + 2))) k (k + 2) := by
  intro bp q W hq
  refine (parseEscape_punct _ s k W hk hs hp).mono ?_
  rintro e w' ⟨b, h1, h2, h3, h4⟩
  exact ⟨b, q.corner, h1, h2.mono (fun _ _ h => h.elim), hq.same h2, h3, h4⟩

theorem plan_of_escd (s : ByteArray) (hs : s.size ≤ 1000000) : ∀ (n k e : Nat), s.size - k = n → e ≤ k → k ≤ s.size → Escd s k → Plan s k e (scan s k e) := by
  intro n
  induction n using Nat.strongRecOn with
  | ind n ih =>
    intro k e hn he hk hg
    by_cases hlt : k < s.size
    · rw [Escd, dif_pos hlt] at hg
      rcases hg with ⟨hd, hg⟩ | ⟨h92, ⟨hk1, hp⟩, hg⟩
      · have h92 : s[k] ≠ 92 := by intro h; rw [h] at hd; revert hd; decide
        rw [scan, dif_pos hlt, if_neg h92]
        exact Plan.dull hlt hd (ih _ (by omega) (k + 1) e rfl (by omega) hlt hg)
      · rw [scan, dif_pos hlt, if_pos h92]
        exact Plan.piece hlt _ (Or.inl ⟨h92, rfl⟩) _ k (k + 2) he (Nat.le_refl _) (by omega) (by omega) (esc_call s k hk1 hs hp) (fun _ h => by cases h) (ih _ (by omega) (k + 2) (k + 2) rfl (Nat.le_refl _) (by omega) hg)
    · have hks : k = s.size := by omega
      subst hks
      rw [scan_end]
      exact Plan.fin e
theorem plan_escd (s : ByteArray) (hs : s.size ≤ 1000000) (hg : Escd s 0) : Plan s 0 0 (scan s 0 0) := plan_of_escd s hs _ 0 0 rfl (Nat.le_refl _) (Nat.zero_le _) hg
end Go.Proofs.YtdnlfdppjfjncaaGreatDoor

/- The plain law of FnEscaped: what the escaped text is, seen by the parser. -/
namespace Go.Proofs.YtdnlfdppjfjncaaGreatDoor
open Go Go.RowKit Go.Proofs

/-- A byte with a backslash ahead, if it is a sign. -/
def slB (c : UInt8) : List UInt8 := if punct c then [92, c] else [c]
/-- A text with a backslash ahead of each sign. -/
def slL (l : List UInt8) : List UInt8 := l.flatMap slB
def slT (t : ByteArray) : ByteArray := ⟨(slL t.data.toList).toArray⟩

def Pr (c : UInt8) : Prop := 32 ≤ c.toNat ∧ c.toNat ≤ 126

theorem slL_len : ∀ l : List UInt8, l.length ≤ (slL l).length ∧ (slL l).length ≤ 2 * l.length
  | [] => by simp [slL]
  | c :: l => by
    have h := slL_len l
    have e : slL (c :: l) = slB c ++ slL l := by simp [slL]
    rw [e]
    unfold slB
    split <;> simp <;> omega

theorem slT_size (t : ByteArray) : t.size ≤ (slT t).size ∧ (slT t).size ≤ 2 * t.size := by
  have h := slL_len t.data.toList
  have e1 : t.data.toList.length = t.size := rfl
  have e2 : (slT t).size = (slL t.data.toList).length := by show (slL t.data.toList).toArray.size = _; simp
  omega

theorem pr_of_prFrom (t : ByteArray) : ∀ (n i : Nat), t.size - i = n → prFrom t i = true → ∀ j (hj : j < t.size), i ≤ j → Pr t[j]
  | 0, i, hn, _, j, hj, hij => by omega
  | n + 1, i, hn, h, j, hj, hij => by
    have hi : i < t.size := by omega
    rw [prFrom, dif_pos hi] at h
    simp only [Bool.and_eq_true, decide_eq_true_eq] at h
    rcases Nat.eq_or_lt_of_le hij with e | e
    · subst e; exact ⟨h.1.1, h.1.2⟩
    · exact pr_of_prFrom t n (i + 1) (by omega) h.2 j hj (by omega)

theorem pr_list {t : ByteArray} (h : prFrom t 0 = true) : ∀ c ∈ t.data.toList, Pr c := by
  intro c hc
  obtain ⟨j, hj, rfl⟩ := List.getElem_of_mem hc
  have hj' : j < t.size := by simpa using hj
  exact pr_of_prFrom t _ 0 rfl h j hj' (Nat.zero_le _)

theorem dull_of {c : UInt8} (hp : Pr c) (h : punct c = false) : dull c = true := by
  unfold dull
  rw [Bool.not_eq_true', ← Bool.not_eq_true]
  intro hc
  rw [List.contains_iff_mem] at hc
  simp only [List.mem_cons, List.not_mem_nil, or_false] at hc
  rcases hc with rfl | rfl | rfl | rfl | rfl | rfl | rfl | rfl | rfl | rfl | rfl | rfl | rfl | rfl | rfl
  all_goals first | exact absurd h (by decide) | exact absurd hp.1 (by decide)

/-- What stands from place k on. -/
def from_ (s : ByteArray) (k : Nat) : List UInt8 := s.data.toList.drop k

theorem from_cons {s : ByteArray} {k : Nat} {c : UInt8} {r : List UInt8} (h : from_ s k = c :: r) : ∃ hk : k < s.size, s[k] = c ∧ from_ s (k + 1) = r := by
  unfold from_ at h
  have hk : k < s.data.toList.length := by
    rcases Nat.lt_or_ge k s.data.toList.length with h1 | h1
    · exact h1
    · rw [List.drop_eq_nil_of_le h1] at h; cases h
  rw [List.drop_eq_getElem_cons hk] at h
  injection h with h1 h2
  exact ⟨by simpa using hk, h1, h2⟩
theorem from_nil {s : ByteArray} {k : Nat} (hk : k ≤ s.size) (h : from_ s k = []) : k = s.size := by
  unfold from_ at h
  have h1 := List.drop_eq_nil_iff.1 h
  have e1 : s.data.toList.length = s.size := rfl
  omega
theorem from_zero (s : ByteArray) : from_ s 0 = s.data.toList := rfl

theorem sl_cons (c : UInt8) (l : List UInt8) : slL (c :: l) = slB c ++ slL l := by simp [slL]
theorem punct_92 : punct 92 = true := by decide

theorem escd_sl (s : ByteArray) : ∀ (l : List UInt8) (k : Nat), k ≤ s.size → (∀ c ∈ l, Pr c) → from_ s k = slL l → Escd s k
  | [], k, hk, _, h => by
    have := from_nil hk h
    rw [Escd, dif_neg (by omega)]
    exact this
  | c :: l, k, hk, hp, h => by
    rw [sl_cons] at h
    unfold slB at h
    by_cases hc : punct c = true
    · rw [if_pos hc] at h
      obtain ⟨h1, e1, h2⟩ := from_cons h
      obtain ⟨h3, e3, h4⟩ := from_cons h2
      rw [Escd, dif_pos h1]
      exact Or.inr ⟨e1, ⟨h3, by rw [e3]; exact hc⟩, escd_sl s l (k + 2) (by omega) (fun x hx => hp x (List.mem_cons_of_mem _ hx)) h4⟩
    · rw [if_neg hc] at h
      obtain ⟨h1, e1, h2⟩ := from_cons h
      rw [Escd, dif_pos h1]
      exact Or.inl ⟨by rw [e1]; exact dull_of (hp c List.mem_cons_self) (by simpa using hc), escd_sl s l (k + 1) (by omega) (fun x hx => hp x (List.mem_cons_of_mem _ hx)) h2⟩

theorem escN_all (s : ByteArray) : escN s s.size = s.data.toList.flatMap escB := by
  show (s.data.toList.take s.data.toList.length).flatMap escB = _
  rw [List.take_length]
theorem out_plain (s : ByteArray) : outPc (.plain s) = s.data.toList.flatMap escB := escN_all s
theorem out_esc (s : ByteArray) : outPc (.esc s) = s.data.toList.flatMap escB := escN_all s

theorem ext_list (s : ByteArray) (i j : Nat) : (s.extract i j).data.toList = (s.data.toList.drop i).take (j - i) := Lib.extract_data s i j
theorem ext_none (s : ByteArray) (i : Nat) : (s.extract i i).data.toList = [] := by rw [ext_list, Nat.sub_self]; rfl
theorem ext_snoc {s : ByteArray} {e k : Nat} (he : e ≤ k) (hk : k < s.size) : (s.extract e (k + 1)).data.toList = (s.extract e k).data.toList ++ [s[k]] := by
  rw [ext_list, ext_list, show k + 1 - e = (k - e) + 1 by omega, List.take_add_one]
  have hg : (s.data.toList.drop e)[k - e]? = some s[k] := by
    rw [List.getElem?_drop, show e + (k - e) = k by omega]
    have h : k < s.data.toList.length := hk
    rw [List.getElem?_eq_getElem h]; rfl
  rw [hg]
  rfl

theorem scan_sl (s : ByteArray) : ∀ (l : List UInt8) (k e : Nat), e ≤ k → k ≤ s.size → (∀ c ∈ l, Pr c) → from_ s k = slL l →
    (scan s k e).flatMap outPc = (s.extract e k).data.toList.flatMap escB ++ l.flatMap escB
  | [], k, e, he, hk, _, h => by
    have hke := from_nil hk h
    subst hke
    rw [scan_end]
    by_cases hlt : e < s.size
    · rw [if_pos hlt]
      simp only [List.flatMap_cons, List.flatMap_nil, out_plain]
    · rw [if_neg hlt]
      have : e = s.size := by omega
      rw [this, ext_none]
      rfl
  | c :: l, k, e, he, hk, hp, h => by
    rw [sl_cons] at h
    unfold slB at h
    by_cases hc : punct c = true
    · rw [if_pos hc] at h
      obtain ⟨h1, e1, h2⟩ := from_cons h
      obtain ⟨h3, e3, h4⟩ := from_cons h2
      rw [scan, dif_pos h1, if_pos e1, List.flatMap_append, List.flatMap_cons, scan_sl s l (k + 2) (k + 2) (Nat.le_refl _) (by omega) (fun x hx => hp x (List.mem_cons_of_mem _ hx)) h4]
      have hx : (s.extract (k + 1) (k + 2)).data.toList = [c] := by rw [ext1 s (k + 1) h3, e3]
      rw [ext_none, out_esc, hx]
      by_cases hlt : e < k
      · rw [if_pos hlt]
        simp only [List.flatMap_cons, List.flatMap_nil, out_plain, List.append_nil, List.nil_append]
      · rw [if_neg hlt]
        have : e = k := by omega
        rw [this, ext_none]
        simp only [List.flatMap_cons, List.flatMap_nil, List.append_nil, List.nil_append]
    · rw [if_neg hc] at h
      obtain ⟨h1, e1, h2⟩ := from_cons h
      have h92 : s[k] ≠ 92 := by
        rw [e1]; intro h; rw [h] at hc; exact hc punct_92
      rw [scan, dif_pos h1, if_neg h92, scan_sl s l (k + 1) e (by omega) (by omega) (fun x hx => hp x (List.mem_cons_of_mem _ hx)) h2]
      rw [ext_snoc he h1, e1]
      simp only [List.flatMap_append, List.flatMap_cons, List.flatMap_nil, List.append_nil, List.append_assoc]
end Go.Proofs.YtdnlfdppjfjncaaGreatDoor

/- The plain law of FnEscaped: the escaped text is a line as the parser's walk wants it. -/
namespace Go.Proofs.YtdnlfdppjfjncaaGreatDoor
open Go Go.RowKit Go.Proofs

theorem isW_of {c : UInt8} (h : Pr c) (h32 : c ≠ 32) : isW c = false := by
  unfold isW
  rw [Bool.or_eq_false_iff]
  refine ⟨by simpa using h32, ?_⟩
  rw [beq_eq_false_iff_ne]
  rintro rfl
  exact absurd h.1 (by decide)

theorem sl_pr : ∀ l : List UInt8, (∀ c ∈ l, Pr c) → ∀ c ∈ slL l, Pr c
  | [], _, c, h => by simp [slL] at h
  | x :: l, hp, c, h => by
    rw [sl_cons, List.mem_append] at h
    rcases h with h | h
    · have hx := hp x List.mem_cons_self
      unfold slB at h
      split at h
      · simp only [List.mem_cons, List.not_mem_nil, or_false] at h
        rcases h with rfl | rfl
        · exact ⟨by decide, by decide⟩
        · exact hx
      · simp only [List.mem_cons, List.not_mem_nil, or_false] at h
        subst h; exact hx
    · exact sl_pr l (fun y hy => hp y (List.mem_cons_of_mem _ hy)) c h

/-- Ahead of each sign that is no backslash stands a backslash. -/
theorem sl_ahead : ∀ (l : List UInt8) (j : Nat) (c : UInt8), (slL l)[j]? = some c → punct c = true → c ≠ 92 → ∃ i, j = i + 1 ∧ (slL l)[i]? = some 92
  | [], j, c, h, _, _ => by simp [slL] at h
  | x :: l, j, c, h, hc, h92 => by
    rw [sl_cons] at h ⊢
    unfold slB at h ⊢
    by_cases hx : punct x = true
    · rw [if_pos hx] at h ⊢
      match j, h with
      | 0, h => simp at h; exact absurd h.symm h92
      | 1, _ => exact ⟨0, rfl, by simp⟩
      | j + 2, h =>
        simp at h
        obtain ⟨i, rfl, hi⟩ := sl_ahead l j c h hc h92
        exact ⟨i + 2, rfl, by simpa using hi⟩
    · rw [if_neg hx] at h ⊢
      match j, h with
      | 0, h => simp at h; subst h; exact absurd hc hx
      | j + 1, h =>
        simp at h
        obtain ⟨i, rfl, hi⟩ := sl_ahead l j c h hc h92
        exact ⟨i + 1, rfl, by simpa using hi⟩

theorem slT_list (t : ByteArray) : (slT t).data.toList = slL t.data.toList := by simp [slT]

theorem get_of {s : ByteArray} {i : Nat} (hi : i < s.size) : s.data.toList[i]? = some s[i] := by
  have h : i < s.data.toList.length := hi
  rw [List.getElem?_eq_getElem h]; rfl

theorem at0_get {s : ByteArray} {i : Nat} {c : UInt8} (h : at0 s i = c) (h0 : c ≠ 0) : s.data.toList[i]? = some c := by
  unfold at0 at h
  split at h
  · rename_i hi; rw [get_of hi, h]
  · exact absurd h.symm h0

theorem fill_first {t : ByteArray} (h : fillOk t = true) : ∃ h0 : 0 < t.size, t[0] ≠ 32 ∧ t[t.size - 1]'(by omega) ≠ 32 := by
  unfold fillOk at h
  split at h
  · rename_i h0
    simp only [Bool.and_eq_true, Bool.not_eq_true', beq_eq_false_iff_ne] at h
    refine ⟨h0, fun e => h.1 (by rw [e]; rfl), fun e => h.2 (by rw [e]; rfl)⟩
  · cases h

theorem isDig_punct {c : UInt8} (h : isDig c) : punct c = false := by
  unfold isDig at h
  unfold punct
  simp
  omega

theorem isDig_92 : ¬ isDig 92 := by unfold isDig; decide

/-- Such a line begins a paragraph. -/
theorem plain_of {s : ByteArray} (h0 : 0 < s.size) (h32 : s[0] ≠ 32) (hf : s[0] = 92 ∨ punct s[0] = false)
    (ha : ∀ (j : Nat) (c : UInt8), s.data.toList[j]? = some c → punct c = true → c ≠ 92 → ∃ i, j = i + 1 ∧ s.data.toList[i]? = some 92) : Plain s 0 := by
  have hl : p3 s 0 = 0 := by
    unfold p3 lead
    rw [dif_pos h0, if_neg h32]
  have ha0 : at0 s (p3 s 0) = s[0] := by rw [hl]; exact at0_eq h0
  have hk : ∀ k : Nat, (punct (UInt8.ofNat k) = true) → UInt8.ofNat k ≠ 92 → k < 256 → ((s[0].toNat : Int) ≠ k) := by
    intro k hp hne hlt e
    have : s[0] = UInt8.ofNat k := UInt8.toNat_inj.1 (by rw [UInt8.toNat_ofNat']; omega)
    rcases hf with h | h
    · exact hne (this ▸ h)
    · rw [this, hp] at h; cases h
  constructor
  · rw [ha0]; exact hk 62 (by decide) (by decide) (by decide)
  · rw [ha0]; exact hk 35 (by decide) (by decide) (by decide)
  · rw [ha0]; exact hk 45 (by decide) (by decide) (by decide)
  · rw [ha0]; exact hk 95 (by decide) (by decide) (by decide)
  · rw [ha0]; exact hk 42 (by decide) (by decide) (by decide)
  · rw [ha0]; exact hk 60 (by decide) (by decide) (by decide)
  · rw [ha0]; exact hk 96 (by decide) (by decide) (by decide)
  · rw [ha0]; exact hk 126 (by decide) (by decide) (by decide)
  · rw [ha0]; exact h32
  · unfold ItemNo
    rw [ha0]
    by_cases hd : isDig s[0]
    · refine Or.inr ⟨hd, ?_⟩
      rw [hl]
      intro t ht
      have key : ∀ k : UInt8, punct k = true → k ≠ 92 → k ≠ 0 → (at0 s (0 + t)).toNat ≠ k.toNat := by
        intro k hp hne hz e
        have hg := at0_get (UInt8.toNat_inj.1 e) hz
        obtain ⟨i, hi, hg2⟩ := ha _ _ hg hp hne
        have hdig := ht i (by omega)
        have : at0 s (0 + i) = 92 := by
          have hi2 : i < s.size := by
            have := (List.getElem?_eq_some_iff.1 hg2).1
            simpa using this
          rw [Nat.zero_add, at0_eq hi2]
          have := get_of hi2
          rw [hg2] at this
          exact (Option.some.inj this).symm
        rw [this] at hdig
        exact isDig_92 hdig
      exact ⟨key 46 (by decide) (by decide) (by decide), key 41 (by decide) (by decide) (by decide)⟩
    · left
      intro k hkm
      simp only [List.mem_cons, List.not_mem_nil, or_false] at hkm
      have hd' : ¬ (48 ≤ (s[0].toNat : Int) ∧ (s[0].toNat : Int) ≤ 57) := hd
      rcases hkm with rfl | rfl | rfl | rfl | rfl | rfl | rfl | rfl | rfl | rfl | rfl | rfl | rfl
      · exact hk 45 (by decide) (by decide) (by decide)
      · exact hk 42 (by decide) (by decide) (by decide)
      · exact hk 43 (by decide) (by decide) (by decide)
      all_goals omega

theorem oneLine_sl (t : ByteArray) (hp : prFrom t 0 = true) (hf : fillOk t = true) (hs : t.size ≤ 400000) : OneLine (slT t) := by
  obtain ⟨h0, hf1, hf2⟩ := fill_first hf
  have hpl := pr_list hp
  have hps := sl_pr _ hpl
  have hsz := slT_size t
  have hpos : 0 < (slT t).size := by omega
  have hall : ∀ i (hi : i < (slT t).size), Pr (slT t)[i] := by
    intro i hi
    have := get_of hi
    rw [slT_list] at this
    exact hps _ (List.mem_of_getElem? this)
  obtain ⟨c, l, hcl⟩ : ∃ c l, t.data.toList = c :: l := by
    cases h : t.data.toList with
    | nil => have e1 : t.data.toList.length = t.size := rfl
             rw [h] at e1; simp at e1; omega
    | cons c l => exact ⟨c, l, rfl⟩
  have hc0 : t[0] = c := by have := get_of h0; rw [hcl] at this; exact (Option.some.inj this).symm
  have hfirst : (punct c = true ∧ (slT t)[0] = 92) ∨ (punct c = false ∧ (slT t)[0] = c) := by
    have hg := get_of hpos
    rw [slT_list, hcl, sl_cons] at hg
    unfold slB at hg
    by_cases hc : punct c = true
    · rw [if_pos hc] at hg
      exact Or.inl ⟨hc, (Option.some.inj hg).symm⟩
    · rw [if_neg hc] at hg
      exact Or.inr ⟨by simpa using hc, (Option.some.inj hg).symm⟩
  have h32 : (slT t)[0] ≠ 32 := by
    rcases hfirst with ⟨_, h⟩ | ⟨_, h⟩
    · rw [h]; decide
    · rw [h, ← hc0]; exact hf1
  have hlast : (slT t)[(slT t).size - 1]'(by omega) ≠ 32 := by
    have hne : t.data.toList ≠ [] := by rw [hcl]; simp
    obtain ⟨m, d, hmd⟩ : ∃ m d, t.data.toList = m ++ [d] := ⟨_, _, (List.dropLast_concat_getLast hne).symm⟩
    have hd : t[t.size - 1]'(by omega) = d := by
      have hg := get_of (s := t) (i := t.size - 1) (by omega)
      have e1 : t.data.toList.length = t.size := rfl
      rw [hmd] at hg e1
      simp at e1
      rw [List.getElem?_append_right (by omega), show t.size - 1 - m.length = 0 by omega] at hg
      exact (Option.some.inj hg).symm
    have hM : ∃ M, (slT t).data.toList = M ++ [d] := by
      rw [slT_list, hmd]
      have : slL (m ++ [d]) = slL m ++ slB d := by simp [slL]
      rw [this]
      unfold slB
      split
      · exact ⟨slL m ++ [92], by simp⟩
      · exact ⟨slL m, rfl⟩
    obtain ⟨M, hM⟩ := hM
    have hg := get_of (s := slT t) (i := (slT t).size - 1) (by omega)
    have e1 : (slT t).data.toList.length = (slT t).size := rfl
    rw [hM] at hg e1
    simp at e1
    rw [List.getElem?_append_right (by omega), show (slT t).size - 1 - M.length = 0 by omega] at hg
    have := (Option.some.inj hg).symm
    rw [this, ← hd]
    exact hf2
  have hn : ∀ k : UInt8, k.toNat < 32 → ∀ i (hi : i < (slT t).size), (slT t)[i] ≠ k := by
    intro k hk i hi e
    have := (hall i hi).1
    rw [e] at this
    omega
  refine ⟨hpos, by omega, isW_of (hall 0 hpos) h32, isW_of (hall _ _) hlast, hn 0 (by decide), hn 10 (by decide), hn 13 (by decide), ?_, hn 9 (by decide), ?_⟩
  · rcases hfirst with ⟨_, h⟩ | ⟨hc, h⟩
    · rw [h]; decide
    · rw [h]; rintro rfl; revert hc; decide
  · refine Or.inl (plain_of hpos h32 ?_ ?_)
    · rcases hfirst with ⟨_, h⟩ | ⟨hc, h⟩
      · exact Or.inl h
      · right; rw [h]; exact hc
    · intro j d hj hd hne
      rw [slT_list] at hj ⊢
      exact sl_ahead _ j d hj hd hne

theorem escd_slT (t : ByteArray) (hp : prFrom t 0 = true) : Escd (slT t) 0 := escd_sl _ _ 0 (Nat.zero_le _) (pr_list hp) (by rw [from_zero, slT_list])

theorem plan_sizes {s : ByteArray} {k e : Nat} (hs : s.size ≤ 1000000) (h : Escd s k) : ∀ u, (Pc.plain u ∈ scan s k e ∨ Pc.esc u ∈ scan s k e ∨ Pc.tag u ∈ scan s k e) → u.size ≤ s.size := by
  have hx : ∀ i j, (s.extract i j).size ≤ s.size := by intro i j; rw [ByteArray.size_extract]; omega
  have key : ∀ (n k e : Nat), s.size - k = n → ∀ p : Pc, p ∈ scan s k e → (∃ i j, p = .plain (s.extract i j) ∨ p = .esc (s.extract i j)) := by
    intro n
    induction n using Nat.strongRecOn with
    | ind n ih =>
      intro k e hn p hp
      rw [scan] at hp
      split at hp
      · split at hp
        · rw [List.mem_append] at hp
          rcases hp with hp | hp
          · split at hp
            · simp at hp; exact ⟨_, _, Or.inl hp⟩
            · cases hp
          · rw [List.mem_cons] at hp
            rcases hp with hp | hp
            · exact ⟨_, _, Or.inr hp⟩
            · exact ih _ (by omega) (k + 2) (k + 2) rfl p hp
        · exact ih _ (by omega) (k + 1) e rfl p hp
      · split at hp
        · simp at hp; exact ⟨_, _, Or.inl hp⟩
        · simp at hp
  intro u hu
  rcases hu with hu | hu | hu
  · obtain ⟨i, j, h | h⟩ := key _ k e rfl _ hu
    · injection h with h; subst h; exact hx _ _
    · cases h
  · obtain ⟨i, j, h | h⟩ := key _ k e rfl _ hu
    · cases h
    · injection h with h; subst h; exact hx _ _
  · obtain ⟨i, j, h | h⟩ := key _ k e rfl _ hu <;> cases h

theorem scan_no_auto (s : ByteArray) : ∀ (n k e : Nat), s.size - k = n → ∀ t u, Pc.auto t u ∉ scan s k e := by
  intro n
  induction n using Nat.strongRecOn with
  | ind n ih =>
    intro k e hn t u hp
    rw [scan] at hp
    split at hp
    · split at hp
      · rw [List.mem_append] at hp
        rcases hp with hp | hp
        · split at hp
          · simp at hp
          · cases hp
        · rw [List.mem_cons] at hp
          rcases hp with hp | hp
          · cases hp
          · exact ih _ (by omega) (k + 2) (k + 2) rfl t u hp
      · exact ih _ (by omega) (k + 1) e rfl t u hp
    · split at hp
      · simp at hp
      · simp at hp

theorem escB_len (l : List UInt8) : (l.flatMap escB).length ≤ 6 * l.length := by
  induction l with
  | nil => simp
  | cons c l ih =>
    have : (escB c).length ≤ 6 := by unfold escB; split; decide; split; decide; split; decide; split; decide; simp
    rw [List.flatMap_cons, List.length_append, List.length_cons]
    omega

/-- The HTML of a text as EscapeHTML writes it. -/
def htmlT (t : ByteArray) : ByteArray := ⟨(t.data.toList.flatMap escB).toArray⟩
/-- A text within the marks of a paragraph. -/
def paraT (t : ByteArray) : ByteArray := ⟨(pOpen ++ t.data.toList ++ pClose).toArray⟩

theorem escaped_html (t : ByteArray) (w : World) (hp : prFrom t 0 = true) (hf : fillOk t = true) (hs : t.size ≤ 100000) :
    Calls Tryz.prog 17 #[.agg #[.bool false, .bool false, .bool false, .bool false, .bool false, .bool false, .bool false, .bool false, .bool false, .bool false], .string (slT t)] w fun e w' => e = .returned (.string (paraT (htmlT t))) ∧ Same w w' := by
  have hsc : (scan (slT t) 0 0).flatMap outPc = t.data.toList.flatMap escB := by
    rw [scan_sl (slT t) t.data.toList 0 0 (Nat.le_refl _) (Nat.zero_le _) (pr_list hp) (by rw [from_zero, slT_list])]
    simp
  have hlen := escB_len t.data.toList
  have e1 : t.data.toList.length = t.size := rfl
  have hsz := slT_size t
  refine (impl_HTML (slT t) w (oneLine_sl t hp hf (by omega)) (scan (slT t) 0 0) (plan_escd _ (by omega) (escd_slT t hp)) ?_ ?_ (scan_no_auto _ _ 0 0 rfl)).mono ?_
  · intro i
    have h1 : ((scan (slT t) 0 0).take i).flatMap outPc ++ ((scan (slT t) 0 0).drop i).flatMap outPc = t.data.toList.flatMap escB := by
      rw [← hsc, ← List.flatMap_append, List.take_append_drop]
    have h2 := congrArg List.length h1
    rw [List.length_append] at h2
    have h3 : pOpen.length = 3 := rfl
    simp only [List.nil_append, List.length_append]
    omega
  · intro u hu
    have := plan_sizes (by omega) (escd_slT t hp) u hu
    omega
  · rintro e w' ⟨rfl, hm⟩
    refine ⟨?_, hm⟩
    rw [hsc]
    simp [paraT, htmlT]
end Go.Proofs.YtdnlfdppjfjncaaGreatDoor

/- The laws' own functions: EscapeHTML. -/
namespace Go.Proofs.YtdnlfdppjfjncaaGreatDoor
open Go Go.RowKit Go.Proofs

theorem bs_app (a b : List UInt8) : ((⟨a.toArray⟩ : ByteArray) ++ (⟨b.toArray⟩ : ByteArray)) = ⟨(a ++ b).toArray⟩ := by
  apply ByteArray.ext
  simp

def strL (l : List UInt8) : ByteArray := ⟨l.toArray⟩
theorem strL_app (a b : List UInt8) : strL a ++ strL b = strL (a ++ b) := bs_app a b
theorem strL_size (a : List UInt8) : (strL a).size = a.length := by show a.toArray.size = _; simp
theorem strL_all (s : ByteArray) : strL s.data.toList = s := by apply ByteArray.ext; simp [strL]
theorem strL_ext (s : ByteArray) (j : Nat) (h : j < s.size) : s.extract j (j + 1) = strL [s[j]] := by rw [ext1 s j h]; rfl

theorem bne_byte {c : UInt8} {k : Nat} (h : c ≠ UInt8.ofNat k) (hk : k < 256) : ((c.toNat : Int) == (k : Int)) = false := by
  apply beq_eq_false_iff_ne.2
  intro e
  apply h
  apply UInt8.toNat_inj.1
  rw [UInt8.toNat_ofNat']
  omega

set_option maxHeartbeats 4000000 in
theorem EscapeHTML_any (s : ByteArray) (w : World) (hs : s.size ≤ 1000000) :
    Calls Tryz.prog 19 #[.string s] w fun e w' => e = .returned (.string (strL (s.data.toList.flatMap escB))) ∧ w = w' := by
  go_enter Tryz.func19, Tryz.ntmps19
  go_wp2_with fail
  go_loopg [3, 4] s.size (fun k o i wr => ∃ j : Nat, o = .string (strL (escN s j)) ∧ i = .int .i64 j ∧ k = s.size - j ∧ j ≤ s.size ∧ w = wr)
  case atStart => exact ⟨0, rfl, rfl, rfl, Nat.zero_le _, rfl⟩
  case round =>
    obtain ⟨j, rfl, rfl, rfl, hj, rfl⟩ := hrel
    have hlen := escN_len s j hj
    have hsz := strL_size (escN s j)
    by_cases hlt : j < s.size
    · have w1 : (j : Int) < s.size := by omega
      have w2 : (0 : Int) ≤ j := by omega
      have w3 : IntKind.i64.wrap ((j : Int) + 1) = (j : Int) + 1 := IntWalk.i64_in _ (by omega)
      have hsucc := escN_succ s j hlt
      have HS := Lib.hid hsucc
      have HX := Lib.hid (strL_ext s j hlt)
      clear hsucc
      by_cases h38 : s[j] = 38
      · have d : ((s[j].toNat : Int) == 38) = true := by rw [h38]; rfl
        have HE : Hid (escB s[j] = [38, 97, 109, 112, 59]) := by rw [h38]; rfl
        clear h38
        go_wp2_with fail
        go_roundg (s.size - (j + 1))
        case measure => omega
        case rel => exact ⟨j + 1, by rw [HS.out, HE.out, ← strL_app]; rfl, rfl, rfl, by omega, rfl⟩
      · have d1 : ((s[j].toNat : Int) == 38) = false := bne_byte (k := 38) h38 (by omega)
        by_cases h60 : s[j] = 60
        · have d : ((s[j].toNat : Int) == 60) = true := by rw [h60]; rfl
          have HE : Hid (escB s[j] = [38, 108, 116, 59]) := by rw [h60]; rfl
          clear h60 h38
          go_wp2_with fail
          go_roundg (s.size - (j + 1))
          case measure => omega
          case rel => exact ⟨j + 1, by rw [HS.out, HE.out, ← strL_app]; rfl, rfl, rfl, by omega, rfl⟩
        · have d2 : ((s[j].toNat : Int) == 60) = false := bne_byte (k := 60) h60 (by omega)
          by_cases h62 : s[j] = 62
          · have d : ((s[j].toNat : Int) == 62) = true := by rw [h62]; rfl
            have HE : Hid (escB s[j] = [38, 103, 116, 59]) := by rw [h62]; rfl
            clear h60 h38 h62
            go_wp2_with fail
            go_roundg (s.size - (j + 1))
            case measure => omega
            case rel => exact ⟨j + 1, by rw [HS.out, HE.out, ← strL_app]; rfl, rfl, rfl, by omega, rfl⟩
          · have d3 : ((s[j].toNat : Int) == 62) = false := bne_byte (k := 62) h62 (by omega)
            by_cases h34 : s[j] = 34
            · have d : ((s[j].toNat : Int) == 34) = true := by rw [h34]; rfl
              have HE : Hid (escB s[j] = [38, 113, 117, 111, 116, 59]) := by rw [h34]; rfl
              clear h60 h38 h62 h34
              go_wp2_with fail
              go_roundg (s.size - (j + 1))
              case measure => omega
              case rel => exact ⟨j + 1, by rw [HS.out, HE.out, ← strL_app]; rfl, rfl, rfl, by omega, rfl⟩
            · have d4 : ((s[j].toNat : Int) == 34) = false := bne_byte (k := 34) h34 (by omega)
              have HE : Hid (escB s[j] = [s[j]]) := by show escB _ = _; unfold escB; rw [if_neg h34, if_neg h38, if_neg h60, if_neg h62]
              clear h60 h38 h62 h34
              go_wp2_with fail
              go_roundg (s.size - (j + 1))
              case measure => omega
              case rel => exact ⟨j + 1, by rw [HS.out, HE.out, ← strL_app, ← HX.out], rfl, rfl, by omega, rfl⟩
    · have w1 : ¬ ((j : Int) < s.size) := by omega
      have hjs : j = s.size := by omega
      subst hjs
      have hall := escN_all s
      have HA := Lib.hid hall
      clear hall
      go_wp2_with fail
      go_ret
      exact ⟨congrArg (fun t => Ending.returned (Value.string (strL t))) HA.out, rfl⟩
end Go.Proofs.YtdnlfdppjfjncaaGreatDoor

/- only: a law's own function over an alphabet. -/
namespace Go.Proofs.YtdnlfdppjfjncaaGreatDoor
open Go Go.RowKit Go.Proofs

theorem ixB (s : ByteArray) (c : UInt8) (w : World) : Calls Tryz.prog 36 #[.string s, .int .u8 c.toNat] w fun e w' => e = .returned (.int .i64 (Lib.indexByte s.data.toList c)) ∧ w = w' := by
  refine (Tryz.strings_IndexByte s c.toNat w).mono ?_
  rintro e w' ⟨rfl, rfl⟩
  refine ⟨?_, rfl⟩
  rw [Int.toNat_natCast]
  congr 4
  simp

/-- Every byte from i on is one of the alphabet's. -/
def onF (s A : ByteArray) (i : Nat) : Bool := if h : i < s.size then (!decide (Lib.indexByte A.data.toList s[i] < 0) && onF s A (i + 1)) else true
termination_by s.size - i

theorem onF_get (s A : ByteArray) : ∀ (n i : Nat), s.size - i = n → onF s A i = true → ∀ j (hj : j < s.size), i ≤ j → ¬ Lib.indexByte A.data.toList s[j] < 0
  | 0, i, hn, _, j, hj, hij => by omega
  | n + 1, i, hn, hp, j, hj, hij => by
    have hi : i < s.size := by omega
    rw [onF, dif_pos hi, Bool.and_eq_true] at hp
    by_cases he : i = j
    · subst he
      simpa using hp.1
    · exact onF_get s A n (i + 1) (by omega) hp.2 j hj (by omega)

set_option maxHeartbeats 4000000 in
theorem only_any (s A : ByteArray) (n : Nat) (w : World) (hs : s.size ≤ n) (hn : n ≤ 100000) :
    Calls Tryz.prog 15 #[.string s, .string A, .int .i64 n] w fun e w' => e = .returned (.bool (onF s A 0)) ∧ w = w' := by
  have w0 : ¬ ((n : Int) < s.size) := by omega
  go_enter Tryz.func15, Tryz.ntmps15
  go_wp2_with fail
  go_loopg [7, 14] s.size (fun k u v wr => ∃ i : Nat, (i = 0 → u = undef) ∧ v = .int .i64 i ∧ k = s.size - i ∧ i ≤ s.size ∧ onF s A i = onF s A 0 ∧ w = wr)
  case atStart => exact ⟨0, fun _ => rfl, rfl, rfl, Nat.zero_le _, rfl, rfl⟩
  case round =>
    obtain ⟨i, _, rfl, rfl, hi, hp, rfl⟩ := hrel
    have HP := Lib.hid hp
    clear hp
    by_cases hlt : i < s.size
    · have w1 : (i : Int) < s.size := by omega
      have w2 : (0 : Int) ≤ i := by omega
      have w3 : IntKind.i64.wrap ((i : Int) + 1) = (i : Int) + 1 := IntWalk.i64_in _ (by omega)
      have hun : onF s A i = (!decide (Lib.indexByte A.data.toList s[i] < 0) && onF s A (i + 1)) := by rw [onF, dif_pos hlt]
      have HU := Lib.hid hun
      clear hun
      go_wp2_with fail
      refine (ixB A s[i] w).mono ?_
      rintro e w' ⟨rfl, rfl⟩
      by_cases hc : Lib.indexByte A.data.toList s[i] < 0
      · have hf : onF s A 0 = false := by rw [← HP.out, HU.out]; simp [hc]
        have HF := Lib.hid hf
        clear hf
        go_wp2_with fail
        go_ret
        exact ⟨by rw [HF.out]; rfl, rfl⟩
      · have Hc := Lib.hid hc
        go_wp2_with fail
        go_roundg (s.size - (i + 1))
        case measure => omega
        case rel => exact ⟨i + 1, fun h => absurd h (by omega), by simp, rfl, by omega, by rw [← HP.out, HU.out]; simp [Hc.out], rfl⟩
    · have hin : i = s.size := by omega
      have w1 : ¬ ((i : Int) < s.size) := by omega
      have ht : onF s A 0 = true := by rw [← HP.out, hin, onF, dif_neg (Nat.lt_irrefl _)]
      have HT := Lib.hid ht
      clear ht
      go_wp2_with fail
      go_ret
      exact ⟨by rw [HT.out]; rfl, rfl⟩

set_option maxHeartbeats 4000000 in
theorem only_big (s A : ByteArray) (n : Nat) (w : World) (hs : n < s.size) (_hs2 : s.size ≤ 2147483647) :
    Calls Tryz.prog 15 #[.string s, .string A, .int .i64 n] w fun e w' => e = .returned (.bool false) ∧ w = w' := by
  have w0 : (n : Int) < s.size := by omega
  go_enter Tryz.func15, Tryz.ntmps15
  go_wp2_with fail
  go_ret
  exact ⟨rfl, rfl⟩
end Go.Proofs.YtdnlfdppjfjncaaGreatDoor

/- Appends within the capacity; the closures of emph. -/
namespace Go.Proofs.YtdnlfdppjfjncaaGreatDoor
open Go Go.RowKit Go.Proofs

/-- An append within the capacity writes one place. -/
theorem run_room {P : Program} {w : World} (t ty e : Nat) (ht : P.underlying t = some (.slice e)) (hi : (P.info? e).map (fun i => i.size) = some 1)
    (g i n cap : Nat) (xs : List Value) (hown : w.ownsRow 0 e 1 (.slice (some ⟨g, 0, none⟩) n cap) n xs) (hin : i < n) (u : Value) (h1 : u.oneCell' = true) (b c : Nat) (hb : w.cell? ⟨b, 0, none⟩ = some u) :
    ∃ w', (Builtin.append_ #[t, t] ty #[.slice (some ⟨g, 0, none⟩) i cap, .slice (some ⟨b, 0, none⟩) 1 c]).run P w = .ok (.slice (some ⟨g, 0, none⟩) (i + 1) cap) w' ∧ Mods (fun k => k = g) w w' ∧ w'.ownsRow 0 e 1 (.slice (some ⟨g, 0, none⟩) n cap) n (xs.set i u) := by
  obtain ⟨i0, hi0, hsz⟩ := Option.map_eq_some_iff.1 hi
  rcases hown.2 with ⟨h, _⟩ | ⟨g', cap', cur, hv, h00, hg, hc, hm, hs, htake⟩
  · cases h
  · cases hv
    have hlen := hown.1
    simp only [Nat.mul_one] at hs htake hlen
    have hr := run_append_room (P := P) w t ty e i0 ht hi0 g i cap cur hg ⟨b, 0, none⟩ 1 c [u] (by rw [hsz]; rfl)
      (fun j y hy => by cases j with
        | zero => simp at hy; subst hy; simpa [Addr.add_lit] using hb
        | succ j => simp at hy) (fun y hy => by simp at hy; subst hy; exact h1) (by omega) (by rw [hsz]; simp; omega)
    have hcs : (cur.toList.take (i * i0.size) ++ [u] ++ cur.toList.drop (i * i0.size + [u].length)) = cur.toList.set i u := by
      rw [hsz, Nat.mul_one]
      have hle : i < cur.toList.length := by simp; omega
      rw [List.set_eq_take_append_cons_drop, if_pos hle]
      simp
    rw [hcs] at hr
    refine ⟨_, hr, ⟨rfl, rfl, rfl, by simp, fun k _ hk => setRow_other w g k _ hk⟩, by simpa using hlen, .inr ⟨g, cap, (cur.toList.set i u).toArray, rfl, h00, setRow_heap w g cur _ e _ hg, hc, hm, ?_, ?_⟩⟩
    · simp only [Nat.mul_one]
      simp
      exact hs
    · simp only [Nat.mul_one]
      rw [← htake]
      simp [List.take_set]

section
variable {w : World} {ops : Array Oper} {rest : List Oper} {o : Oper} {a : Act} {Q : Exit → Act → World → Prop}

theorem wp_room_inl {K : Act → World → Prop} (s x : Operand) (ho : o.op = .call { callee := .builtin .append, args := #[s, x], argTypes := #[88, 88] })
    (g i n cap : Nat) (xs : List Value) (hown : w.ownsRow 0 132 1 (.slice (some ⟨g, 0, none⟩) n cap) n xs) (hin : i < n) (u : Value) (h1 : u.oneCell' = true) (b c : Nat)
    (hs : a.eval s = .slice (some ⟨g, 0, none⟩) i cap) (hx : a.eval x = .slice (some ⟨b, 0, none⟩) 1 c) (hb : w.cell? ⟨b, 0, none⟩ = some u)
    (h : ∀ w', Mods (fun k => k = g) w w' → w'.ownsRow 0 132 1 (.slice (some ⟨g, 0, none⟩) n cap) n (xs.set i u) → K (a.put o.dst (.slice (some ⟨g, 0, none⟩) (i + 1) cap)) w') : o.wp Tryz.prog a w K Q := by
  obtain ⟨w', hr, hm, hr2⟩ := run_room (P := Tryz.prog) 88 o.type 132 Tryz.underlying88 (by kernel_rfl) g i n cap xs hown hin u h1 b c hb
  unfold Oper.wp execOp
  simp only [ho, resolve, invoke, builtin, Sem.run_bind, Sem.run_pure, Result.andThen_ok, List.map_toArray, List.map_cons, List.map_nil, hs, hx, hr]
  exact h w' hm hr2

theorem wl_room_inl (hgd : o.guard = none) (s x : Operand) (ho : o.op = .call { callee := .builtin .append, args := #[s, x], argTypes := #[88, 88] })
    (g i n cap : Nat) (xs : List Value) (hown : w.ownsRow 0 132 1 (.slice (some ⟨g, 0, none⟩) n cap) n xs) (hin : i < n) (u : Value) (h1 : u.oneCell' = true) (b c : Nat)
    (hs : a.eval s = .slice (some ⟨g, 0, none⟩) i cap) (hx : a.eval x = .slice (some ⟨b, 0, none⟩) 1 c) (hb : w.cell? ⟨b, 0, none⟩ = some u)
    (h : ∀ w', Mods (fun k => k = g) w w' → w'.ownsRow 0 132 1 (.slice (some ⟨g, 0, none⟩) n cap) n (xs.set i u) → wpList Tryz.prog ops Q rest (a.put o.dst (.slice (some ⟨g, 0, none⟩) (i + 1) cap)) w') : wpList Tryz.prog ops Q (o :: rest) a w :=
  wpList_plain hgd fun _ hK => wp_room_inl s x ho g i n cap xs hown hin u h1 b c hs hx hb fun w' hm hr => hK _ _ (h w' hm hr)

theorem st_room_inl {K : Act → World → Prop} {E : Prop} (hgd : o.guard = none) (s x : Operand) (ho : o.op = .call { callee := .builtin .append, args := #[s, x], argTypes := #[88, 88] })
    (g i n cap : Nat) (xs : List Value) (hown : w.ownsRow 0 132 1 (.slice (some ⟨g, 0, none⟩) n cap) n xs) (hin : i < n) (u : Value) (h1 : u.oneCell' = true) (b c : Nat)
    (hs : a.eval s = .slice (some ⟨g, 0, none⟩) i cap) (hx : a.eval x = .slice (some ⟨b, 0, none⟩) 1 c) (hb : w.cell? ⟨b, 0, none⟩ = some u)
    (h : ∀ w', Mods (fun k => k = g) w w' → w'.ownsRow 0 132 1 (.slice (some ⟨g, 0, none⟩) n cap) n (xs.set i u) → K (a.put o.dst (.slice (some ⟨g, 0, none⟩) (i + 1) cap)) w') : if Region.wanted o (yielded ops a.tmps) = true then Oper.wp Tryz.prog o a w K Q else E := by
  have hw : Region.wanted o (yielded ops a.tmps) = true := by simp [Region.wanted, hgd]
  rw [if_pos hw]
  exact wp_room_inl s x ho g i n cap xs hown hin u h1 b c hs hx hb h

/-- append onto a stack of marks. -/
theorem ap_mark (hgd : o.guard = none) (s x : Operand) (ho : o.op = .call { callee := .builtin .append, args := #[s, x], argTypes := #[209, 209] })
    (v : Value) (n : Nat) (xs : List Value) (hs : a.eval s = v) (hown : w.ownsRow 0 190 1 v n xs)
    (b c : Nat) (u : Option Addr) (hx : a.eval x = .slice (some ⟨b, 0, none⟩) 1 c) (hu : w.cell? ⟨b, 0, none⟩ = some (.pointer u)) (hn : n ≤ 1000000)
    (h : ∀ g cap w', w'.ownsRow 0 190 1 (.slice (some ⟨g, 0, none⟩) (n + 1) cap) (n + 1) (xs ++ [.pointer u]) → w.grownBy w' v.ownBlock → (v.ownBlock = some g ∨ g = w.heap.size) → wpList Tryz.prog ops Q rest (a.put o.dst (.slice (some ⟨g, 0, none⟩) (n + 1) cap)) w') : wpList Tryz.prog ops Q (o :: rest) a w :=
  ap1 hgd s x 209 190 1 8 ho (.pointer none) Tryz.underlying209 (by kernel_rfl) rfl (by decide) (by decide) v n xs hs hown b c [.pointer u] hx rfl
    (fun j y hy => by cases j with
      | zero => simp at hy; subst hy; exact hu
      | succ j => simp at hy) (fun y hy => by simp at hy; subst hy; rfl) hn h
end

/-- The place of a sign among the kinds of marks. -/
theorem stackOf_at (c : UInt8) (k : Nat) (w : World) (h : (c = 126 ∧ k = 2) ∨ (c = 34 ∧ k = 3) ∨ (c = 39 ∧ k = 4)) :
    Calls Tryz.prog 129 #[.int .u8 c.toNat] w fun e w' => e = .returned (.int .i64 k) ∧ w = w' := by
  go_enter Tryz.func129, Tryz.ntmps129
  go_wp2_with fail
  refine (ixB ⟨#[95, 42, 126, 34, 39]⟩ c w).mono ?_
  rintro e w' ⟨rfl, rfl⟩
  go_wp2_with fail
  go_ret
  refine ⟨?_, rfl⟩
  rcases h with ⟨rfl, rfl⟩ | ⟨rfl, rfl⟩ | ⟨rfl, rfl⟩ <;> rfl
end Go.Proofs.YtdnlfdppjfjncaaGreatDoor

/- emph's trimStack where one tilde is on its stack. -/
namespace Go.Proofs.YtdnlfdppjfjncaaGreatDoor
open Go Go.RowKit Go.Proofs

def sNil : Value := .slice none 0 0
/-- The stacks of marks, a value for that of tildes. -/
def stk2 (v : Value) : Array Value := #[sNil, sNil, v, sNil, sNil]

theorem trim_facts {w wr : World} {S D m sg sc d i0 : Nat} {gl : Option Addr} {cap : Nat} {cs : Array Value} (hm : Same w wr) (hS : Blk w S (stk2 (.slice (some ⟨sg, 0, none⟩) 1 sc)) 210) (hD : Blk w D #[.slice gl d cap] 88)
    (hrow : w.ownsRow 0 190 1 (.slice (some ⟨sg, 0, none⟩) 1 sc) 1 [.pointer (some ⟨m, 0, none⟩)]) (hM : Blk w m cs 192) (hi : cs[3]? = some (.int .i64 i0)) :
    (wr.cell? ⟨S, 0, none⟩ = some (.slice none 0 0) ∧ wr.cell? ⟨S, 1, none⟩ = some (.slice none 0 0) ∧ wr.cell? ⟨S, 2, none⟩ = some (.slice (some ⟨sg, 0, none⟩) 1 sc) ∧ wr.cell? ⟨S, 3, none⟩ = some (.slice none 0 0) ∧ wr.cell? ⟨S, 4, none⟩ = some (.slice none 0 0)) ∧
      wr.frozen? ⟨S, 2, none⟩ = false ∧ S < wr.heap.size ∧ wr.cell? ⟨D, 0, none⟩ = some (.slice gl d cap) ∧ wr.cell? ⟨sg, 0, none⟩ = some (.pointer (some ⟨m, 0, none⟩)) ∧ wr.cell? ⟨m, 3, none⟩ = some (.int .i64 i0) := by
  have hSr := hm.blk hS
  have hDr := hm.blk hD
  have hMr := hm.blk hM
  obtain ⟨_, _, he, _, _, hc⟩ := ownsRow_form (ownsRow_keep hrow hm (fun _ _ x => x)) (by omega)
  cases he
  exact ⟨⟨hSr.cell 0, hSr.cell 1, hSr.cell 2, hSr.cell 3, hSr.cell 4⟩, hSr.fr 2, hSr.lt, hDr.cell 0, hc 0 _ rfl, (hMr.cell 3).trans hi⟩

def Trimmed (w w' : World) (S sg sc : Nat) : Prop := Mods (fun k => k = S) w w' ∧ Blk w' S (stk2 (.slice (some ⟨sg, 0, none⟩) 0 sc)) 210
theorem Trimmed.same {w w' w2 : World} {S sg sc : Nat} (h : Trimmed w w' S sg sc) (hm : Same w' w2) : Trimmed w w2 S sg sc := ⟨h.1.then hm (fun _ _ x => absurd x (fun x => x)), hm.blk h.2⟩
theorem Trimmed.facts {w w' : World} {S sg sc : Nat} (h : Trimmed w w' S sg sc) : w'.cell? ⟨S, 2, none⟩ = some (.slice (some ⟨sg, 0, none⟩) 0 sc) ∧ w'.cell? ⟨S, 3, none⟩ = some (.slice none 0 0) ∧ w'.cell? ⟨S, 4, none⟩ = some (.slice none 0 0) ∧ S < w'.heap.size := ⟨h.2.cell 2, h.2.cell 3, h.2.cell 4, h.2.lt⟩

theorem trimmed_at {w wr : World} {S sg sc k : Nat} (hS : Blk w S (stk2 (.slice (some ⟨sg, 0, none⟩) 1 sc)) 210) (hm : Same w wr) : Trimmed w ((wr.drewN k).setCell ⟨S, 2, none⟩ (.slice (some ⟨sg, 0, none⟩) 0 sc)) S sg sc := by
  have hm2 : Same w (wr.drewN k) := hm.drewN k
  have h := (hm2.blk hS).set_same 2 (.slice (some ⟨sg, 0, none⟩) 0 sc)
  exact ⟨(hm2.mono (S' := fun k => k = S) (fun _ _ x => absurd x (fun x => x))).trans ((Mods.refl (fun k => k = S) _).setCell (p := ⟨S, 2, none⟩) (fun _ => rfl) _), h⟩

set_option maxRecDepth 100000 in
set_option maxHeartbeats 8000000 in
theorem trim_tilde (S D m sg sc d i0 : Nat) (gl : Option Addr) (cap : Nat) (cs : Array Value) (w : World) (hS : Blk w S (stk2 (.slice (some ⟨sg, 0, none⟩) 1 sc)) 210) (hD : Blk w D #[.slice gl d cap] 88)
    (hrow : w.ownsRow 0 190 1 (.slice (some ⟨sg, 0, none⟩) 1 sc) 1 [.pointer (some ⟨m, 0, none⟩)]) (hM : Blk w m cs 192) (hi : cs[3]? = some (.int .i64 i0)) (hd : d ≤ i0) (hsc : 1 ≤ sc) :
    Calls Tryz.prog 130 #[.pointer (some ⟨S, 0, none⟩), .pointer (some ⟨D, 0, none⟩)] w fun e w' => e = .returned (.tuple #[]) ∧ Trimmed w w' S sg sc := by
  have HF := fun (wr : World) (hm : Same w wr) => trim_facts hm hS hD hrow hM hi
  have HH := Lib.hid HF
  have HS := Lib.hid hS
  have x1 : (d : Int) ≤ i0 := by omega
  have x2 : (0 : Int) ≤ sc := by omega
  clear HF hS hD hrow hM hi
  go_enter Tryz.func130, Tryz.ntmps130
  go_wp2_with fail
  go_loopg [2, 3, 4] 5 (fun a v2 v3 v4 wr => ∃ i : Nat, v4 = .int .i64 i ∧ a = 5 - i ∧ i ≤ 5 ∧ ((i ≤ 2 ∧ Same w wr) ∨ (3 ≤ i ∧ Trimmed w wr S sg sc)))
  case atStart => exact ⟨0, rfl, rfl, by omega, Or.inl ⟨by omega, Mods.refl _ _⟩⟩
  case round =>
    obtain ⟨i, rfl, rfl, hi5, hor⟩ := hrel
    have hcase : i = 0 ∨ i = 1 ∨ i = 2 ∨ i = 3 ∨ i = 4 ∨ i = 5 := by omega
    rcases hcase with rfl | rfl | rfl | rfl | rfl | rfl
    · obtain ⟨_, hm⟩ | ⟨h3, _⟩ := hor
      · have HM := Lib.hid hm
        clear hm
        go_wp2_with fail
        go_loopg [] 0 (fun _ wx => Same w wx)
        case atStart => exact HM.out
        case round =>
          obtain ⟨⟨y0, y1, y2, y3, y4⟩, yf, yl, yD, yg, ym⟩ := HH.out _ hrel
          have HR := Lib.hid hrel
          clear hrel
          go_wp2_with fail
          go_quiet (fail)
          go_wp2_with fail
          go_roundg 4
          case measure => omega
          case rel => exact ⟨1, rfl, rfl, by omega, Or.inl ⟨by omega, HR.out.drewN _⟩⟩
      · exact absurd h3 (by omega)
    · obtain ⟨_, hm⟩ | ⟨h3, _⟩ := hor
      · have HM := Lib.hid hm
        clear hm
        go_wp2_with fail
        go_loopg [] 0 (fun _ wx => Same w wx)
        case atStart => exact HM.out
        case round =>
          obtain ⟨⟨y0, y1, y2, y3, y4⟩, yf, yl, yD, yg, ym⟩ := HH.out _ hrel
          have HR := Lib.hid hrel
          clear hrel
          go_wp2_with fail
          go_quiet (fail)
          go_wp2_with fail
          go_roundg 3
          case measure => omega
          case rel => exact ⟨2, rfl, rfl, by omega, Or.inl ⟨by omega, HR.out.drewN _⟩⟩
      · exact absurd h3 (by omega)
    · obtain ⟨_, hm⟩ | ⟨h3, _⟩ := hor
      · have HM := Lib.hid hm
        clear hm
        go_wp2_with fail
        go_loopg [] 1 (fun a wx => (a = 1 ∧ Same w wx) ∨ (a = 0 ∧ Trimmed w wx S sg sc))
        case atStart => exact Or.inl ⟨rfl, HM.out⟩
        case round =>
          rcases hrel with ⟨rfl, hm⟩ | ⟨rfl, hT⟩
          · obtain ⟨⟨y0, y1, y2, y3, y4⟩, yf, yl, yD, yg, ym⟩ := HH.out _ hm
            have HR := Lib.hid hm
            clear hm
            go_wp2_with fail
            go_quiet (fail)
            go_wp2_with fail
            have hm2 := HR.out.drewN nq
            generalize hX : (World.drewN _ _ : World) = X at hm2 ⊢
            clear hX y0 y1 y2 y3 y4 yf yl yD yg ym
            obtain ⟨⟨y0, y1, y2, y3, y4⟩, yf, yl, yD, yg, ym⟩ := HH.out _ hm2
            have HR2 := Lib.hid hm2
            clear hm2
            go_region
            all_goals
              go_wp2_with fail
              go_roundg 0
              case measure => omega
              case rel => exact Or.inr ⟨rfl, trimmed_at HS.out HR2.out⟩
          · obtain ⟨y2, y3, y4, yl⟩ := hT.facts
            have HR := Lib.hid hT
            clear hT
            go_wp2_with fail
            go_quiet (fail)
            go_wp2_with fail
            go_roundg 2
            case measure => omega
            case rel => exact ⟨3, rfl, rfl, by omega, Or.inr ⟨by omega, HR.out.same ((Mods.refl _ _).drewN _)⟩⟩
      · exact absurd h3 (by omega)
    · obtain ⟨h3, _⟩ | ⟨_, hT⟩ := hor
      · exact absurd h3 (by omega)
      · have HT := Lib.hid hT
        clear hT
        go_wp2_with fail
        go_loopg [] 0 (fun _ wx => Trimmed w wx S sg sc)
        case atStart => exact HT.out
        case round =>
          obtain ⟨y2, y3, y4, yl⟩ := hrel.facts
          have HR := Lib.hid hrel
          clear hrel
          go_wp2_with fail
          go_quiet (fail)
          go_wp2_with fail
          go_roundg 1
          case measure => omega
          case rel => exact ⟨4, rfl, rfl, by omega, Or.inr ⟨by omega, HR.out.same ((Mods.refl _ _).drewN _)⟩⟩
    · obtain ⟨h3, _⟩ | ⟨_, hT⟩ := hor
      · exact absurd h3 (by omega)
      · have HT := Lib.hid hT
        clear hT
        go_wp2_with fail
        go_loopg [] 0 (fun _ wx => Trimmed w wx S sg sc)
        case atStart => exact HT.out
        case round =>
          obtain ⟨y2, y3, y4, yl⟩ := hrel.facts
          have HR := Lib.hid hrel
          clear hrel
          go_wp2_with fail
          go_quiet (fail)
          go_wp2_with fail
          go_roundg 0
          case measure => omega
          case rel => exact ⟨5, rfl, rfl, by omega, Or.inr ⟨by omega, HR.out.same ((Mods.refl _ _).drewN _)⟩⟩
    · obtain ⟨h3, _⟩ | ⟨_, hT⟩ := hor
      · exact absurd h3 (by omega)
      · have HT := Lib.hid hT
        clear hT
        go_wp2_with fail
        go_end0
        exact ⟨rfl, HT.out⟩
end Go.Proofs.YtdnlfdppjfjncaaGreatDoor

/- inline on a text of pieces of any kind: what the loop holds. -/
namespace Go.Proofs.YtdnlfdppjfjncaaGreatDoor.G
open Go Go.RowKit Go.Proofs

/-- A piece of a line: the type of the pointer in the list, that of its block, and what the block holds. -/
structure Pc where
  ty : Nat
  bty : Nat
  cells : Array Value
def Pc.plain (t : ByteArray) : Pc := ⟨156, 137, #[.string t]⟩

/-- A type of a piece's block. -/
def PcTy (T : Nat) : Prop := T ≠ 95 ∧ T ≠ 132
structure Pc.Ok (p : Pc) : Prop where
  open_ : p.ty ≠ 134
  bty_is : PcTy p.bty
theorem plain_ok (t : ByteArray) : (Pc.plain t).Ok := ⟨by show 156 ≠ 134; decide, by show 137 ≠ 95; decide, by show 137 ≠ 132; decide⟩

def PcAt (w : World) (x : Value) (p : Pc) : Prop := p.Ok ∧ ∃ b, x = .iface p.ty (.pointer (some ⟨b, 0, none⟩)) ∧ Blk w b p.cells p.bty

def PcsAt (w : World) : List Value → List Pc → Prop
  | [], [] => True
  | x :: xs, p :: ps => PcAt w x p ∧ PcsAt w xs ps
  | _, _ => False

theorem PcAt.keep {w w' : World} {S : Nat → Prop} {x : Value} {p : Pc} (h : PcAt w x p) (hm : Mods S w w') (hS : ∀ b cs T, Blk w b cs T → PcTy T → ¬ S b) : PcAt w' x p := by
  obtain ⟨ho, b, hx, hb⟩ := h
  exact ⟨ho, b, hx, hb.keep hm (hS b _ _ hb ho.bty_is)⟩

theorem PcsAt.keep {w w' : World} {S : Nat → Prop} (hm : Mods S w w') (hS : ∀ b cs T, Blk w b cs T → PcTy T → ¬ S b) :
    ∀ {xs : List Value} {ps : List Pc}, PcsAt w xs ps → PcsAt w' xs ps
  | [], [], _ => trivial
  | _ :: _, _ :: _, h => ⟨h.1.keep hm hS, PcsAt.keep hm hS h.2⟩
  | [], _ :: _, h => h.elim
  | _ :: _, [], h => h.elim

theorem PcsAt.snoc {w : World} {x : Value} {p : Pc} (hx : PcAt w x p) : ∀ {xs : List Value} {ps : List Pc}, PcsAt w xs ps → PcsAt w (xs ++ [x]) (ps ++ [p])
  | [], [], _ => ⟨hx, trivial⟩
  | _ :: _, _ :: _, h => ⟨h.1, PcsAt.snoc hx h.2⟩
  | [], _ :: _, h => h.elim
  | _ :: _, [], h => h.elim

theorem PcsAt.length {w : World} : ∀ {xs : List Value} {ps : List Pc}, PcsAt w xs ps → xs.length = ps.length
  | [], [], _ => rfl
  | _ :: _, _ :: _, h => congrArg (· + 1) (PcsAt.length h.2)
  | [], _ :: _, h => h.elim
  | _ :: _, [], h => h.elim

/-- What the list of pieces is, seen from the world w0 in which inline began. -/
structure Held (w0 w : World) (bp : Nat) (p : PSt) (s : ByteArray) (e n : Nat) (lv : Value) (xs : List Value) (pcs : List Pc) : Prop where
  mods : Mods (fun b => b = bp) w0 w
  at_ : PsAt w bp { p with s := s, list := lv, emitted := ((e : Nat) : Int) }
  row : w.ownsRow 0 132 1 lv n xs
  pcs : PcsAt w xs pcs
  fresh : ∀ g, lv.ownBlock = some g → w0.heap.size ≤ g
  new : ∀ x ∈ xs, ∀ T b, x = .iface T (.pointer (some ⟨b, 0, none⟩)) → w0.heap.size ≤ b

theorem new_snoc {w0 : World} {xs : List Value} {T0 b0 : Nat} (h : ∀ x ∈ xs, ∀ T b, x = .iface T (.pointer (some ⟨b, 0, none⟩)) → w0.heap.size ≤ b) (hb : w0.heap.size ≤ b0) : ∀ x ∈ xs ++ [.iface T0 (.pointer (some ⟨b0, 0, none⟩))], ∀ T b, x = .iface T (.pointer (some ⟨b, 0, none⟩)) → w0.heap.size ≤ b := by
  intro x hx T b he
  rcases List.mem_append.1 hx with h1 | h1
  · exact h x h1 T b he
  · have h2 := (List.mem_singleton.1 h1).symm.trans he
    cases h2
    exact hb

theorem Held.same {w0 w w' : World} {bp : Nat} {p : PSt} {s : ByteArray} {e n : Nat} {lv : Value} {xs : List Value} {pcs : List Pc} (h : Held w0 w bp p s e n lv xs pcs) (hm : Same w w') : Held w0 w' bp p s e n lv xs pcs :=
  ⟨h.mods.then hm (fun _ _ x => absurd x (fun x => x)), h.at_.same hm, ownsRow_keep h.row hm (fun _ _ x => x), h.pcs.keep hm (fun _ _ _ _ _ x => x), h.fresh, h.new⟩

theorem pcs_safe {w : World} {bp n : Nat} {p : PSt} {lv : Value} {xs : List Value} (hp : PsAt w bp p) (hown : w.ownsRow 0 132 1 lv n xs) :
    ∀ b cs T, Blk w b cs T → PcTy T → ¬ (b = bp ∨ lv.ownBlock = some b) := by
  intro b cs T hb hT h
  rcases h with h | h
  · obtain ⟨tail, htl⟩ := id hp
    exact hb.ne_of_type htl hT.1 h
  · exact own_ne hown hb hT.2 h

theorem emit_held {w0 w : World} {bp : Nat} {p : PSt} {s : ByteArray} {e n : Nat} {lv : Value} {xs : List Value} {pcs : List Pc} (h : Held w0 w bp p s e n lv xs pcs) (i : Nat) (he : e ≤ i) (hi : i ≤ s.size) (hs : s.size ≤ 1000000) (hn : n ≤ 1000000) :
    Calls Tryz.prog 87 #[.pointer (some ⟨bp, 0, none⟩), .int .i64 i] w fun e' w' => e' = .returned (.tuple #[]) ∧ ∃ n' lv' xs', n' ≤ n + 1 ∧ Mods (fun k => k = bp ∨ lv.ownBlock = some k) w w' ∧
      Held w0 w' bp p s i n' lv' xs' (pcs ++ (if e < i then [.plain (s.extract e i)] else [])) := by
  by_cases hlt : e < i
  · refine (emit_some bp n _ xs e i w h.at_ rfl hlt hi hs h.row hn).mono ?_
    rintro e' w' ⟨rfl, hm, g, cap, b, hp, hown, hb, hbn, hloc⟩
    refine ⟨rfl, n + 1, _, _, Nat.le_refl _, hm, ?_, hp, hown, ?_, ?_, ?_⟩
    · refine h.mods.then hm (fun b hb hh => ?_)
      rcases hh with hh | hh
      · exact hh
      · have := h.fresh b hh; omega
    · rw [if_pos hlt]
      exact PcsAt.snoc (p := .plain (s.extract e i)) ⟨plain_ok _, b, rfl, hb⟩ (h.pcs.keep hm (pcs_safe h.at_ h.row))
    · intro g' hg'
      cases hg'
      rcases hloc with hh | hh
      · exact h.fresh g hh
      · exact Nat.le_trans h.mods.size hh
    · exact new_snoc h.new (Nat.le_trans h.mods.size hbn)
  · have : e = i := by omega
    subst this
    refine (emit_none bp _ e e w h.at_ rfl (by omega)).mono ?_
    rintro e' w' ⟨rfl, rfl⟩
    refine ⟨rfl, n, lv, xs, by omega, Mods.refl _ _, ?_⟩
    rw [if_neg hlt, List.append_nil]
    exact h

theorem Held.push_at {w0 w w1 : World} {bp : Nat} {p : PSt} {s : ByteArray} {e n : Nat} {lv : Value} {xs : List Value} {pcs : List Pc} {o : Obj} (h : Held w0 w bp p s e n lv xs pcs) (hgrow : (w.alloc o).grownBy w1 lv.ownBlock) :
    w1.cell? ⟨bp, 9, none⟩ = some lv ∧ w1.frozen? ⟨bp, 9, none⟩ = false ∧ bp < w1.heap.size := by
  have h1 := h.same ((Mods.refl _ w).alloc o)
  have hp1 := h1.at_.keep (grown_mods hgrow) (fun x => own_ne_ps h1.row h1.at_ (by decide) x)
  exact ⟨hp1.list, hp1.fr 9, hp1.lt⟩

/-- A piece is put behind the others, and the list stored. -/
theorem Held.push {w0 w w1 : World} {bp : Nat} {p : PSt} {s : ByteArray} {e n g cap b : Nat} {lv : Value} {xs : List Value} {pcs : List Pc} {o : Obj} {pc : Pc} (h : Held w0 w bp p s e n lv xs pcs)
    (hown1 : w1.ownsRow 0 132 1 (.slice (some ⟨g, 0, none⟩) (n + 1) cap) (n + 1) (xs ++ [.iface pc.ty (.pointer (some ⟨b, 0, none⟩))])) (hgrow : (w.alloc o).grownBy w1 lv.ownBlock) (hloc : lv.ownBlock = some g ∨ g = w.heap.size + 1)
    (hok : pc.Ok) (hbn : w0.heap.size ≤ b) (hb : Blk w b pc.cells pc.bty) :
    Held w0 (w1.setCell ⟨bp, 9, none⟩ (.slice (some ⟨g, 0, none⟩) (n + 1) cap)) bp p s e (n + 1) (.slice (some ⟨g, 0, none⟩) (n + 1) cap) (xs ++ [.iface pc.ty (.pointer (some ⟨b, 0, none⟩))]) (pcs ++ [pc]) := by
  have hS : Same w (w.alloc o) := (Mods.refl _ w).alloc o
  have h1 := h.same hS
  have hmA := grown_mods hgrow
  have hnb : lv.ownBlock ≠ some bp := fun x => own_ne_ps h1.row h1.at_ (by decide) x
  have hp1 := h1.at_.keep hmA hnb
  have hx1 := h1.pcs.keep hmA (fun b cs T hb hT x => pcs_safe h1.at_ h1.row b cs T hb hT (Or.inr x))
  have hb1 := (hS.blk hb).keep hmA (fun x => pcs_safe h1.at_ h1.row b _ _ (hS.blk hb) hok.bty_is (Or.inr x))
  have hm2 : Mods (fun k => k = bp) w1 (w1.setCell ⟨bp, 9, none⟩ (.slice (some ⟨g, 0, none⟩) (n + 1) cap)) := (Mods.refl (fun k => k = bp) w1).setCell (p := ⟨bp, 9, none⟩) (fun _ => rfl) _
  refine ⟨?_, hp1.set 9 _ _ rfl (by decide), ?_, ?_, ?_, new_snoc h.new hbn⟩
  · refine (h1.mods.then hmA (fun b hb hh => ?_)).then hm2 (fun _ _ x => x)
    have := h.fresh b hh; omega
  · exact ownsRow_keep hown1 hm2 (fun k hk he => own_ne_ps hown1 hp1 (by decide) (by rw [← he]; exact hk))
  · exact PcsAt.keep hm2 (fun b cs T hb hT x => pcs_safe hp1 hown1 b cs T hb hT (Or.inl x)) (PcsAt.snoc (p := pc) ⟨hok, b, rfl, hb1⟩ hx1)
  · intro g' hg'
    cases hg'
    rcases hloc with hh | hh
    · exact h.fresh g hh
    · have := h.mods.size
      show w0.heap.size ≤ g
      omega

/-- What the call of a piece's function gives. -/
def PieceCall (s : ByteArray) (k fn : Nat) (pc : Pc) (st en : Nat) : Prop :=
  ∀ (bp : Nat) (q : PSt) (W : World), PsAt W bp q →
    Calls Tryz.prog fn #[.pointer (some ⟨bp, 0, none⟩), .string s, .int .i64 k] W fun e w' => ∃ b c, e = .returned (.tuple #[.iface pc.ty (.pointer (some ⟨b, 0, none⟩)), .int .i64 st, .int .i64 en, .bool true]) ∧
      Mods (fun k => k = bp) W w' ∧ PsAt w' bp { q with corner := c } ∧ W.heap.size ≤ b ∧ Blk w' b pc.cells pc.bty

/-- Options: strikethrough, smart quotes. -/
structure Op where
  strike : Bool
  quote : Bool
structure OpAt (w : World) (p : PSt) (o : Op) : Prop where
  s : Opt w p 1 o.strike
  q : Opt w p 9 o.quote
theorem OpAt.keep {w w' : World} {p : PSt} {o : Op} {S : Nat → Prop} (h : OpAt w p o) (hm : Mods S w w') (hS : ¬ S p.parser) : OpAt w' p o := ⟨h.s.keep hm hS, h.q.keep hm hS⟩

/-- The bytes that begin a piece, and the function that reads it. -/
def Starts (o : Op) (c : UInt8) (fn : Nat) : Prop :=
  (c = 92 ∧ fn = 75) ∨ (c = 60 ∧ fn = 78) ∨ (c = 10 ∧ fn = 84) ∨
  (c = 126 ∧ fn = 81 ∧ o.strike = true) ∨ (c = 34 ∧ fn = 81 ∧ o.quote = true) ∨ (c = 39 ∧ fn = 81 ∧ o.quote = true)
/-- The bytes that begin none. -/
def Idle (o : Op) (c : UInt8) : Prop := dull c = true ∨ (c = 126 ∧ o.strike = false) ∨ (c = 34 ∧ o.quote = false) ∨ (c = 39 ∧ o.quote = false)

/-- How a text is read from place k on, if nothing has been emitted from e on: into these pieces. -/
inductive Plan (o : Op) (s : ByteArray) : Nat → Nat → List Pc → Prop
  | fin (e : Nat) : Plan o s s.size e (if e < s.size then [.plain (s.extract e s.size)] else [])
  | dull {k e : Nat} {r : List Pc} (hk : k < s.size) (hd : Idle o s[k]) (h : Plan o s (k + 1) e r) : Plan o s k e r
  | piece {k e : Nat} {r : List Pc} (hk : k < s.size) (fn : Nat) (hb : Starts o s[k] fn) (pc : Pc) (st en : Nat) (h1 : e ≤ st) (h2 : st ≤ k) (h3 : k < en) (h4 : en ≤ s.size) (hc : PieceCall s k fn pc st en) (ho : pc.Ok)
      (h : Plan o s en en r) : Plan o s k e ((if e < st then [.plain (s.extract e st)] else []) ++ pc :: r)

/-- The state of the loop. -/
def Going (o : Op) (w0 w : World) (bp : Nat) (p : PSt) (s : ByteArray) (all : List Pc) (k : Nat) : Prop :=
  k ≤ s.size ∧ ∃ c e n lv xs pcs r, e ≤ k ∧ n ≤ e ∧ Held w0 w bp { p with corner := c } s e n lv xs pcs ∧ Plan o s k e r ∧ pcs ++ r = all

theorem Held.skipped {w0 w w' : World} {bp : Nat} {p : PSt} {s : ByteArray} {e e' n : Nat} {lv : Value} {xs : List Value} {pcs : List Pc} (h : Held w0 w bp p s e n lv xs pcs) (hm : Mods (fun k => k = bp) w w')
    (hp : PsAt w' bp { p with s := s, list := lv, emitted := ((e' : Nat) : Int) }) : Held w0 w' bp p s e' n lv xs pcs :=
  ⟨h.mods.then hm (fun _ _ x => x), hp, ownsRow_keep h.row hm (fun k hk x => own_ne_ps h.row h.at_ (by decide) (by rw [← x]; exact hk)), h.pcs.keep hm (fun b cs T hb hT x => pcs_safe h.at_ h.row b cs T hb hT (Or.inl x)), h.fresh, h.new⟩

/-- A call that changes the parser's mark of a corner case alone. -/
theorem Held.cornered {w0 w w' : World} {bp : Nat} {p : PSt} {s : ByteArray} {e n : Nat} {lv : Value} {xs : List Value} {pcs : List Pc} {c : Bool} (h : Held w0 w bp p s e n lv xs pcs) (hm : Mods (fun k => k = bp) w w')
    (hp : PsAt w' bp { ({ p with s := s, list := lv, emitted := ((e : Nat) : Int) } : PSt) with corner := c }) : Held w0 w' bp { p with corner := c } s e n lv xs pcs :=
  ⟨h.mods.then hm (fun _ _ x => x), hp, ownsRow_keep h.row hm (fun k hk x => own_ne_ps h.row h.at_ (by decide) (by rw [← x]; exact hk)), h.pcs.keep hm (fun b cs T hb hT x => pcs_safe h.at_ h.row b cs T hb hT (Or.inl x)), h.fresh, h.new⟩
/-- Only blocks of a parse state or of a text are changed. -/
def Calm (S : Nat → Prop) (w : World) : Prop := ∀ b cs T, Blk w b cs T → S b → T = 95 ∨ T = 110
theorem calm_ps {w : World} {bp : Nat} {q : PSt} (h : PsAt w bp q) : Calm (fun k => k = bp) w := by
  intro b cs T hb hS
  obtain ⟨tail, htl⟩ := id h
  by_cases hT : T = 95
  · exact Or.inl hT
  · exact absurd hS (hb.ne_of_type htl hT)
theorem calm_text {w : World} {k : Nat} {cs : Array Value} (h : Blk w k cs 110) : Calm (fun b => b = k) w := by
  intro b cs' T hb hS
  by_cases hT : T = 110
  · exact Or.inr hT
  · exact absurd hS (hb.ne_of_type h hT)
/-- What such a change leaves as it was. -/
def Stays (P : World → Nat → Nat → Nat → Prop) : Prop := ∀ S W W' g n c, P W g n c → Calm S W → Mods S W W' → P W' g n c

/-- The parse state when the list is made. -/
structure Mid (w0 w : World) (bp : Nat) (p : PSt) (s : ByteArray) (c : Bool) : Prop where
  mods : Mods (fun k => k = bp) w0 w
  at_ : ∃ l e, PsAt w bp { p with corner := c, s := s, list := l, emitted := e }
theorem Mid.same {w0 w w' : World} {bp : Nat} {p : PSt} {s : ByteArray} {c : Bool} (h : Mid w0 w bp p s c) (hm : Same w w') : Mid w0 w' bp p s c := by
  obtain ⟨h1, l, e, h2⟩ := h
  exact ⟨h1.then hm (fun _ _ x => absurd x (fun x => x)), l, e, h2.same hm⟩
theorem Mid.set9 {w0 w : World} {bp : Nat} {p : PSt} {s : ByteArray} {c : Bool} (h : Mid w0 w bp p s c) (v : Value) : Mid w0 (w.setCell ⟨bp, 9, none⟩ v) bp p s c ∧ Mods (fun k => k = bp) w (w.setCell ⟨bp, 9, none⟩ v) ∧ (w.setCell ⟨bp, 9, none⟩ v).cell? ⟨bp, 9, none⟩ = some v := by
  obtain ⟨h1, l, e, h2⟩ := h
  have hm : Mods (fun k => k = bp) w (w.setCell ⟨bp, 9, none⟩ v) := (Mods.refl (fun k => k = bp) w).setCell (p := ⟨bp, 9, none⟩) (fun _ => rfl) _
  have h3 := h2.set 9 v { p with corner := c, s := s, list := v, emitted := e } rfl (by decide)
  exact ⟨⟨h1.trans hm, v, e, h3⟩, hm, h3.list⟩
end Go.Proofs.YtdnlfdppjfjncaaGreatDoor.G
